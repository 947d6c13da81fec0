/-
  The Write of the encoder of base64; within the bound.
-/
import Derived.Test.YtbgckolcimlofaaGreatDoorProg
import Derived.Test.YtbgckolcimlofaaGreatDoorT33
import Derived.Test.YtbgckolcimlofaaGreatDoorT28
import Derived.Test.YtbgckolcimlofaaGreatDoorT30
import Derived.Lib.SlBuf
import Derived.Laws.IdiomCopy
set_option linter.unusedVariables false
set_option linter.unusedSimpArgs false
namespace Go.Proofs.YtbgckolcimlofaaGreatDoor
open Go.RowKit YtbgckolcimlofaaGreatDoorPj

/-- An encoder: 'tail' waits in it. -/
structure EncdAt (w : World) (q e t : Nat) (tail : List UInt8) : Prop where
  c0 : w.cell? ⟨q, 0, none⟩ = some .nilIface
  c1 : w.cell? ⟨q, 1, none⟩ = some (.pointer (some ⟨e, 0, none⟩))
  c2 : w.cell? ⟨q, 2, none⟩ = some (.iface 49 (.pointer (some ⟨t, 0, none⟩)))
  buf : ∀ j, j < 3 → ∃ x : Int, w.cell? ⟨q, 3 + j, none⟩ = some (.int .u8 x)
  tl : tail.length ≤ 3
  tc : ∀ j (h : j < tail.length), w.cell? ⟨q, 3 + j, none⟩ = some (u8v tail[j])
  c6 : w.cell? ⟨q, 6, none⟩ = some (.int .i64 (tail.length : Nat))
  out : ∀ j, j < 1024 → ∃ x : Int, w.cell? ⟨q, 7 + j, none⟩ = some (.int .u8 x)
  fz : ∀ o, w.frozen? ⟨q, o, none⟩ = false ∨ 1031 ≤ o
theorem EncdAt.only {w w' : World} {q e t : Nat} {tail : List UInt8} {S : Nat → Prop} (h : EncdAt w q e t tail) (ho : Only S w w') (hS : ¬ S q) : EncdAt w' q e t tail := by
  have hl := World.block_lt_of_cell? w _ h.c0
  have hc : ∀ o, w'.cell? ⟨q, o, none⟩ = w.cell? ⟨q, o, none⟩ := fun o => ho.cell hl hS
  refine ⟨(hc 0).trans h.c0, (hc 1).trans h.c1, (hc 2).trans h.c2, fun j hj => ?_, h.tl, fun j hj => (hc _).trans (h.tc j hj), (hc 6).trans h.c6, fun j hj => ?_, fun o => ?_⟩
  · obtain ⟨x, hx⟩ := h.buf j hj
    exact ⟨x, (hc _).trans hx⟩
  · obtain ⟨x, hx⟩ := h.out j hj
    exact ⟨x, (hc _).trans hx⟩
  · rcases h.fz o with h | h
    · exact Or.inl ((ho.frozen hl hS).trans h)
    · exact Or.inr h
theorem EncdAt.lt {w : World} {q e t : Nat} {tail : List UInt8} (h : EncdAt w q e t tail) : q < w.heap.size := World.block_lt_of_cell? w _ h.c0
/-- Its room has been written. -/
theorem EncdAt.put {w w' : World} {q e t : Nat} {tail bs : List UInt8} (h : EncdAt w q e t tail) (hp : Put w w' q 7 bs) (hb : bs.length ≤ 1024) : EncdAt w' q e t tail := by
  have hc : ∀ o, o < 7 → w'.cell? ⟨q, o, none⟩ = w.cell? ⟨q, o, none⟩ := fun o ho => hp.rest o (Or.inl ho)
  have hl := h.tl
  refine ⟨(hc 0 (by omega)).trans h.c0, (hc 1 (by omega)).trans h.c1, (hc 2 (by omega)).trans h.c2, fun j hj => ?_, h.tl, fun j hj => (hc _ (by omega)).trans (h.tc j hj), (hc 6 (by omega)).trans h.c6, fun j hj => ?_, fun o => ?_⟩
  · obtain ⟨x, hx⟩ := h.buf j hj
    exact ⟨x, (hc _ (by omega)).trans hx⟩
  · by_cases e : j < bs.length
    · exact ⟨_, hp.cells j e⟩
    · obtain ⟨x, hx⟩ := h.out j hj
      exact ⟨x, (hp.rest (7 + j) (Or.inr (by omega))).trans hx⟩
  · rcases h.fz o with h | h
    · exact Or.inl ((hp.free o).trans h)
    · exact Or.inr h
theorem tryz_nilW2 (a : Addr) (w : World) : (nilAhead 396 49 (.pointer (some a)) "Write").run Tryz.prog w = .ok (some false) w := by kernel_rfl
/-- What the encoder writes. -/
def EwPost (G : Nat → Prop) (q e t : Nat) (out : List UInt8) (tail : List UInt8) (w w' : World) : Prop :=
  ∃ G', Txt w' G' t out ∧ Newer G G' w ∧ Only (fun k => G k ∨ k = q) w w' ∧ EncdAt w' q e t tail
theorem EwPost.start {G : Nat → Prop} {q e t : Nat} {out tail : List UInt8} {w : World} (h : Txt w G t out) (he : EncdAt w q e t tail) : EwPost G q e t out tail w w := ⟨G, h, Newer.refl _ _, Only.refl _ _, he⟩
theorem EwPost.put {G : Nat → Prop} {q e t : Nat} {out tail bs : List UInt8} {w w1 w2 : World} (h : EwPost G q e t out tail w w1) (hq : ¬ G q) (hqw : q < w.heap.size) (hp : Put w1 w2 q 7 bs) (hb : bs.length ≤ 1024) : EwPost G q e t out tail w w2 := by
  obtain ⟨G', h1, h2, h3, h4⟩ := h
  have hq' : ¬ G' q := fun e => by
    rcases h2 q e with e | e
    · exact hq e
    · omega
  exact ⟨G', h1.only hp.only fun k hk e => hq' (e ▸ hk), h2, h3.trans (hp.only.mono fun k _ e => Or.inr e), h4.put hp hb⟩
theorem EwPost.same {G : Nat → Prop} {q e t : Nat} {out tail : List UInt8} {w w1 w2 : World} (h : EwPost G q e t out tail w w1) (ho : Only (fun _ => False) w1 w2) : EwPost G q e t out tail w w2 := by
  obtain ⟨G', h1, h2, h3, h4⟩ := h
  exact ⟨G', h1.only ho fun _ _ e => e, h2, h3.trans (ho.mono fun _ _ e => e.elim), h4.only ho fun e => e⟩
/-- The encoder tells the text what lies in its room. -/
theorem EwPost.write {G : Nat → Prop} {q e t : Nat} {out tail bs : List UInt8} {w w1 : World} (h : EwPost G q e t out tail w w1) (hq : ¬ G q) (hqw : q < w.heap.size) (n c : Nat) (hn : bs.length = n) (hn0 : 0 < n) (hc : n ≤ c ∧ c ≤ 1024) (hl : out.length ≤ 70368744177664)
    (hb : ∀ j (h : j < bs.length), w1.cell? ⟨q, 7 + j, none⟩ = some (u8v bs[j])) :
    Calls Tryz.prog 196 #[.pointer (some ⟨t, 0, none⟩), .slice (some ⟨q, 7, none⟩) n c] w1 fun en w' => en = .returned (.tuple #[.int .i64 (n : Nat), .nilIface]) ∧ EwPost G q e t (out ++ bs) tail w w' ∧ ∀ o, w'.cell? ⟨q, o, none⟩ = w1.cell? ⟨q, o, none⟩ ∧ w'.frozen? ⟨q, o, none⟩ = w1.frozen? ⟨q, o, none⟩ := by
  obtain ⟨G', h1, h2, h3, h4⟩ := h
  have hq' : ¬ G' q := fun e => by
    rcases h2 q e with e | e
    · exact hq e
    · omega
  subst hn
  have hl1 := h4.lt
  refine (Go.Proofs.YtbgckolcimlofaaGreatDoor.write t _ bs (fun _ => True) G' out w1 w1 (Wrote.start h1) hl ⟨some ⟨q, 7, none⟩, c, rfl, hc.1, by omega, fun j hj => ⟨q, 7, rfl, trivial, hb j hj⟩⟩ hn0).mono ?_
  rintro en w' ⟨rfl, G2, k1, k2, k3⟩
  have hs := h3.size
  refine ⟨rfl, ⟨G2, k1, fun k hk => ?_, h3.trans' k3 fun i hi e => ?_, h4.only k3 hq'⟩, fun o => ⟨k3.cell hl1 hq', k3.frozen hl1 hq'⟩⟩
  · rcases k2 k hk with e | e
    · exact h2 k e
    · right; omega
  · rcases h2 i e with e | e
    · exact Or.inl e
    · omega
theorem EncdAt.set0 {w : World} {q e t : Nat} {tail : List UInt8} (h : EncdAt w q e t tail) : EncdAt (w.setCell ⟨q, 0, none⟩ .nilIface) q e t tail := by
  have hq := h.lt
  have c0 := h.c0
  have hc : ∀ o, 0 < o → (w.setCell ⟨q, 0, none⟩ .nilIface).cell? ⟨q, o, none⟩ = w.cell? ⟨q, o, none⟩ := fun o ho => by
    have h1 : ¬ o = 0 := by omega
    have h2 : ¬ 0 = o := by omega
    go_simp
  refine ⟨by go_simp, (hc 1 (by omega)).trans h.c1, (hc 2 (by omega)).trans h.c2, fun j hj => ?_, h.tl, fun j hj => (hc _ (by omega)).trans (h.tc j hj), (hc 6 (by omega)).trans h.c6, fun j hj => ?_, fun o => ?_⟩
  · obtain ⟨x, hx⟩ := h.buf j hj
    exact ⟨x, (hc _ (by omega)).trans hx⟩
  · obtain ⟨x, hx⟩ := h.out j hj
    exact ⟨x, (hc _ (by omega)).trans hx⟩
  · rcases h.fz o with h | h
    · exact Or.inl (by simpa using h)
    · exact Or.inr h
theorem EwPost.set0 {G : Nat → Prop} {q e t : Nat} {out tail : List UInt8} {w w1 : World} (h : EwPost G q e t out tail w w1) (hq : ¬ G q) (hqw : q < w.heap.size) : EwPost G q e t out tail w (w1.setCell ⟨q, 0, none⟩ .nilIface) := by
  obtain ⟨G', h1, h2, h3, h4⟩ := h
  have hq' : ¬ G' q := fun e => by
    rcases h2 q e with e | e
    · exact hq e
    · omega
  have ho : Only (fun k => k = q) w1 (w1.setCell ⟨q, 0, none⟩ .nilIface) := Only.setCell (S := fun k => k = q) (p := ⟨q, 0, none⟩) (Only.refl _ _) (fun _ => rfl) _
  exact ⟨G', h1.only ho fun k hk e => hq' (e ▸ hk), h2, h3.trans (ho.mono fun k _ e => Or.inr e), h4.set0⟩
theorem Put.setCells (g : Nat) : ∀ (bs : List UInt8) (off : Nat) (w : World), (∀ j, j < bs.length → ∃ v, w.cell? ⟨g, off + j, none⟩ = some v) → Put w (w.setCells g off (bs.map u8v)) g off bs
  | [], off, w, _ => Put.refl w g off
  | b :: r, off, w, h => by
    obtain ⟨v0, h0⟩ := h 0 (by simp)
    rw [Nat.add_zero] at h0
    have p1 := (Put.refl w g off).one b rfl h0
    simp only [List.nil_append] at p1
    have p2 := Put.setCells g r (off + 1) (w.setCell ⟨g, off, none⟩ (u8v b)) (fun j hj => by
      obtain ⟨v, hv⟩ := h (j + 1) (by simp; omega)
      have e1 : ¬ off = off + 1 + j := by omega
      have e2 : ¬ off + 1 + j = off := by omega
      rw [show off + (j + 1) = off + 1 + j by omega] at hv
      exact ⟨v, by go_simp⟩)
    simp only [List.map_cons, World.setCells]
    refine ⟨p1.only.trans' p2.only fun i hi e => e, p2.size.trans p1.size, fun j hj => ?_, fun o ho => ?_, fun o => (p2.free o).trans (p1.free o)⟩
    · cases j with
      | zero =>
        have h1 := p2.rest off (Or.inl (by omega))
        have h2 := p1.cells 0 (by simp)
        simp only [Nat.add_zero] at h2 ⊢
        exact h1.trans h2
      | succ j =>
        have h1 := p2.cells j (by simp at hj; omega)
        rw [show off + (j + 1) = off + 1 + j by omega]
        exact h1
    · simp at ho
      exact (p2.rest o (by omega)).trans (p1.rest o (by simp; omega))
theorem EncdAt.tail {w : World} {q e t : Nat} (h : EncdAt w q e t []) (tail : List UInt8) (hl : tail.length ≤ 3) : EncdAt ((w.setCells q 3 (tail.map u8v)).setCell ⟨q, 6, none⟩ (.int .i64 (tail.length : Nat))) q e t tail ∧ Only (fun k => k = q) w ((w.setCells q 3 (tail.map u8v)).setCell ⟨q, 6, none⟩ (.int .i64 (tail.length : Nat))) := by
  have hp := Put.setCells q tail 3 w fun j hj => by
    obtain ⟨x, hx⟩ := h.buf j (by omega)
    exact ⟨_, hx⟩
  have c6 : (w.setCells q 3 (tail.map u8v)).cell? ⟨q, 6, none⟩ = some (.int .i64 0) := (hp.rest 6 (Or.inr (by omega))).trans h.c6
  generalize hW : w.setCells q 3 (tail.map u8v) = W at hp c6 ⊢
  have hc : ∀ o, o ≠ 6 → (W.setCell ⟨q, 6, none⟩ (.int .i64 (tail.length : Nat))).cell? ⟨q, o, none⟩ = W.cell? ⟨q, o, none⟩ := fun o ho => by
    have h2 : ¬ 6 = o := by omega
    go_simp
  have ho : Only (fun k => k = q) W (W.setCell ⟨q, 6, none⟩ (.int .i64 (tail.length : Nat))) := Only.setCell (S := fun k => k = q) (p := ⟨q, 6, none⟩) (Only.refl _ _) (fun _ => rfl) _
  have hr : ∀ o, o < 3 ∨ 6 ≤ o → o ≠ 6 → (W.setCell ⟨q, 6, none⟩ (.int .i64 (tail.length : Nat))).cell? ⟨q, o, none⟩ = w.cell? ⟨q, o, none⟩ := fun o h1 h2 => (hc o h2).trans (hp.rest o (by omega))
  refine ⟨⟨(hr 0 (by omega) (by omega)).trans h.c0, (hr 1 (by omega) (by omega)).trans h.c1, (hr 2 (by omega) (by omega)).trans h.c2, fun j hj => ?_, hl, fun j hj => ?_, by go_simp, fun j hj => ?_, fun o => ?_⟩, hp.only.trans' ho fun i hi e => e⟩
  · by_cases e : j < tail.length
    · exact ⟨_, (hc _ (by omega)).trans (hp.cells j e)⟩
    · obtain ⟨x, hx⟩ := h.buf j hj
      exact ⟨x, (hc _ (by omega)).trans ((hp.rest (3 + j) (Or.inr (by omega))).trans hx)⟩
  · exact (hc _ (by omega)).trans (hp.cells j hj)
  · obtain ⟨x, hx⟩ := h.out j hj
    exact ⟨x, (hr _ (by omega) (by omega)).trans hx⟩
  · rcases h.fz o with h | h
    · exact Or.inl (by simpa using (hp.free o).trans h)
    · exact Or.inr h
theorem seg_b64 (bs : List UInt8) (i nn j : Nat) (hi : i = 3 * j) (hin : i ≤ bs.length) : b64 (bs.take (i + nn)) = b64 (bs.take i) ++ b64 ((bs.drop i).take nn) := by
  rw [List.take_add]
  exact b64_snoc j _ _ (by rw [List.length_take]; omega)
theorem b64_len3 (l : List UInt8) (j : Nat) (h : l.length = 3 * j) : (b64 l).length = 4 * j := b64_mul j l h
set_option maxRecDepth 100000 in
set_option maxHeartbeats 4000000 in
theorem encWrite (q e t sb so L sc : Nat) (A : Option Addr) (bs : List UInt8) (G : Nat → Prop) (out : List UInt8) (w : World) (ht : Txt w G t out) (hq : EncdAt w q e t []) (he : EncAt w e) (hL : bs.length = L) (hLc : L ≤ sc) (hsc : sc ≤ 9223372036854775807) (hL2 : L ≤ 131072) (hA : 0 < L → A = some ⟨sb, so, none⟩)
    (hs : ∀ j (h : j < bs.length), w.cell? ⟨sb, so + j, none⟩ = some (u8v bs[j])) (hGq : ¬ G q) (hGe : ¬ G e) (hGs : ¬ G sb) (heq : e ≠ q) (hsq : sb ≠ q) (hl : out.length ≤ 34184372088832) :
    Calls Tryz.prog 211 #[.pointer (some ⟨q, 0, none⟩), .slice A L sc] w (fun en w' => ∃ z : Int, en = .returned (.tuple #[.int .i64 z, .nilIface]) ∧ EwPost G q e t (out ++ b64 (bs.take (3 * (L / 3)))) (bs.drop (3 * (L / 3))) w w') := by
  have c0 := hq.c0
  have c6 : w.cell? ⟨q, 6, none⟩ = some (.int .i64 0) := hq.c6
  have hqw := hq.lt
  have HT := hid (EwPost.start ht hq)
  have HE := hid he
  have HLL := hid hL
  have HA := hid hA
  have HS := hid hs
  have HGQ := hid hGq
  have HGE := hid hGe
  have HGS := hid hGs
  have HEQ := hid heq
  have HSQ := hid hsq
  have hn1 := nilW
  clear ht hq he hL hA hs hGq hGe hGs heq hsq
  go_enter Tryz.func211, Tryz.ntmps211
  go_wp2_with fail
  go_loopg [1, 4, 5, 7] (L + 1) (fun gm v1 v4 v5 v7 wr => ∃ (i c : Nat) (z : Int) (A' : Option Addr), i + gm = L + 1 ∧ Hid (∃ j, i = 3 * j) ∧ i ≤ L ∧ v1 = .slice A' (L - i) c ∧ L - i ≤ c ∧ c ≤ 9223372036854775807 ∧ v4 = .int .i64 z ∧ v5 = .nilIface ∧ Hid (0 < L - i → A' = some ⟨sb, so + i, none⟩) ∧ Hid (EwPost G q e t (out ++ b64 (bs.take i)) [] w wr))
  case atStart => exact ⟨0, sc, 0, A, by omega, hid ⟨0, rfl⟩, by omega, rfl, hLc, hsc, rfl, rfl, HA, by simpa [b64] using HT⟩
  case round =>
    obtain ⟨i, c, z, A', him, HJ, hiL, rfl, hcL, hc4, rfl, rfl, HA', HP⟩ := hrel
    by_cases hlt : i + 3 ≤ L
    · have e1 := HA'.out (by omega)
      subst e1
      have g3 : decide ((3 : Int) ≤ ((L - i : Nat) : Int)) = true := by simp; omega
      go_upto_if 114 with fail
      go_cut [7] (fun v7 wx => ∃ nn : Nat, v7 = .int .i64 (nn : Nat) ∧ Hid (∃ m, nn = 3 * m) ∧ 3 ≤ nn ∧ nn ≤ 768 ∧ i + nn ≤ L ∧ wx = wr)
      case first =>
        by_cases hbig : L - i < 768
        · have g4 : (((L - i : Nat) : Int)) < 768 := by omega
          have g5 : (0 : Int) ≤ ((L - i : Nat) : Int) := by omega
          have g6 : IntKind.i64.wrap (((L - i : Nat) : Int) - ((L - i : Nat) : Int) % 3) = ((L - i : Nat) : Int) - ((L - i : Nat) : Int) % 3 := IntWalk.i64_in _ (by omega)
          go_wp2
          go_meet
          refine ⟨L - i - (L - i) % 3, ?_, hid ⟨(L - i) / 3, by omega⟩, by omega, by omega, by omega, rfl⟩
          exact congrArg (Value.int .i64) (by omega)
        · have g4 : ¬ (((L - i : Nat) : Int)) < 768 := by omega
          go_wp2
          go_meet
          exact ⟨768, rfl, hid ⟨256, rfl⟩, by omega, by omega, by omega, rfl⟩
      case rest =>
        obtain ⟨nn, rfl, HM, hn3, hn768, hnL, rfl⟩ := hcut
        obtain ⟨G', t1, t2, t3, t4⟩ := HP.out
        have k0 := t4.c0
        have k1 := t4.c1
        have k2 := t4.c2
        have kf0 : wc.frozen? ⟨q, 0, none⟩ = false := by
          rcases t4.fz 0 with h | h
          · exact h
          · omega
        have hsub : ∀ b, ¬ G b → b ≠ q → ¬ (G b ∨ b = q) := fun b h1 h2 h => by rcases h with h | h; exact h1 h; exact h2 h
        have hsl : 0 < L → sb < w.heap.size := fun h => World.block_lt_of_cell? w _ (HS.out 0 (by rw [HLL.out]; exact h))
        have hsegl : ((bs.drop i).take nn).length = nn := by rw [List.length_take, List.length_drop, HLL.out]; omega
        have HSL := hid hsegl
        have HENC : Hid (∀ w1, Only (fun _ => False) wc w1 → Calls Tryz.prog 212 #[.pointer (some ⟨e, 0, none⟩), .slice (some ⟨q, 7, none⟩) 1024 1024, .slice (some ⟨sb, so + i, none⟩) nn c] w1 (fun en w' => en = .returned (.tuple #[]) ∧ Put w1 w' q 7 (b64 ((bs.drop i).take nn)))) := hid (by
          intro w1 ho
          refine encode e q 7 1024 1024 sb (so + i) nn c ((bs.drop i).take nn) w1 ((HE.out.only t3 (hsub e HGE.out HEQ.out)).only ho fun h => h) hsegl (by omega) hn768 (Nat.le_refl _) (Nat.le_refl _) (by omega) ?_ ?_ ?_ HEQ.out (Or.inl HSQ.out)
          · intro j hj
            have h1 := HS.out (i + j) (by rw [HLL.out]; omega)
            have h2 := (t3.cell (hsl (by omega)) (hsub sb HGS.out HSQ.out)).trans h1
            have h3 := (ho.cell (World.block_lt_of_cell? _ _ h2) fun h => h).trans h2
            rw [Nat.add_assoc, h3, List.getElem_take, List.getElem_drop]
          · intro j hj
            obtain ⟨x, hx⟩ := t4.out j hj
            exact ⟨x, (ho.cell t4.lt fun h => h).trans hx⟩
          · intro j hj
            rcases t4.fz (7 + j) with h | h
            · exact (ho.frozen t4.lt fun h => h).trans h
            · omega)
        have m1 : (0 : Int) ≤ (nn : Nat) := by omega
        have m2 : ((nn : Nat) : Int) ≤ (c : Nat) := by omega
        clear t1 t2 t3 t4 hsub hsl hsegl
        go_wp2_with fail
        go_region_held3 (fun w' => w'.cell? ⟨q, 1, none⟩ = some (.pointer (some ⟨e, 0, none⟩))) (go_keep)
          (first
            | (go_at_call 212; go_must (refine (HENC.out _ (Only.drew (Only.refl (fun _ => False) _))).mono ?_); rintro en w1 ⟨rfl, hp⟩; have HPUT := hid hp; have r0 := (hp.rest 0 (Or.inl (by omega))).trans k0; have r1 := (hp.rest 1 (Or.inl (by omega))).trans k1; have r2 := (hp.rest 2 (Or.inl (by omega))).trans k2; have rf := (hp.free 0).trans kf0; clear hp))
        have HP1 := hid ((HP.out.same (Only.drew (Only.refl (fun _ => False) _))).put HGQ.out hqw HPUT.out (by have := HSL.out; obtain ⟨m, hm⟩ := HM.out; rw [b64_len3 _ m (by omega)]; omega))
        obtain ⟨M, hM⟩ := HM.out
        have n0 : IntKind.i64.wrap ((nn : Int) / 3) = (M : Int) := by rw [IntWalk.i64_in _ (by omega)]; omega
        have n1 : IntKind.i64.wrap ((M : Int) * 4) = ((4 * M : Nat) : Int) := by rw [IntWalk.i64_in _ (by omega)]; omega
        have hM1 : 4 * M ≤ 1024 := by omega
        have hM0 : 0 < 4 * M := by omega
        have HMM := hid hM
        obtain ⟨N, hN⟩ : ∃ N, N = 4 * M := ⟨_, rfl⟩
        rw [← hN] at n1 hM1 hM0
        have n2 : (0 : Int) ≤ (N : Int) := by omega
        have n3 : (N : Int) ≤ 1024 := by omega
        have HNN := hid hN
        clear hM hN
        go_wp2_with fail
        go_region_held3 (fun w' => w'.cell? ⟨q, 2, none⟩ = some (.iface 49 (.pointer (some ⟨t, 0, none⟩)))) (first | (go_keep; done) | (go_simp; done))
          (first
            | (go_at_call 196; go_must (refine ((HP1.out.same (Only.drew (Only.refl (fun _ => False) _))).write HGQ.out hqw N 1024 (bs := b64 ((bs.drop i).take nn)) (by rw [HNN.out]; exact b64_len3 _ M (by rw [HSL.out]; exact HMM.out)) hM0 ⟨hM1, Nat.le_refl _⟩ (by have := b64_len4 (bs.take i); rw [List.length_append]; have : (bs.take i).length ≤ L := (by rw [List.length_take, HLL.out]; omega); omega) (fun j hj => by simpa using HPUT.out.cells j hj)).mono ?_); rintro en w2 ⟨rfl, h2, h3⟩; have HP2 := hid h2; have u0 := (h3 0).1.trans r0; have u1 := (h3 1).1.trans r1; have u2 := (h3 2).1.trans r2; have uf := (h3 0).2.trans rf; clear h2 h3))
        go_wp2_with fail
        all_goals
          go_roundg (gk - nn)
          case measure => omega
          case rel =>
            have hset : EwPost G q e t (out ++ b64 (bs.take (i + nn))) [] w (w2.setCell ⟨q, 0, none⟩ .nilIface) := by
              obtain ⟨j, hj⟩ := HJ.out
              rw [seg_b64 bs i nn j hj (by rw [HLL.out]; omega), ← List.append_assoc]
              exact HP2.out.set0 HGQ.out hqw
            refine ⟨i + nn, _, _, _, by omega, hid ?_, by omega, slice_len (by omega), by omega, by omega, rfl, rfl, hid fun h => ?_, hid hset⟩
            · obtain ⟨j, hj⟩ := HJ.out
              obtain ⟨m, hm⟩ := HM.out
              exact ⟨j + m, by omega⟩
            · first
                | (exfalso; omega)
                | exact congrArg some (congrArg (fun x => (⟨sb, x, none⟩ : Addr)) (by omega))
    · have g3 : decide ((3 : Int) ≤ ((L - i : Nat) : Int)) = false := by simp; omega
      obtain ⟨tail, htl⟩ : ∃ tail, tail = bs.drop i := ⟨_, rfl⟩
      have htn : tail.length = L - i := by rw [htl, List.length_drop, HLL.out]
      obtain ⟨G', t1, t2, t3, t4⟩ := HP.out
      have hrun : ∀ ty, (Builtin.copy_ #[29, 29] ty #[.slice (some ⟨q, 3, none⟩) 3 3, .slice A' (L - i) c]).run Tryz.prog wr = .ok (.int .i64 ((L - i : Nat) : Int)) (wr.setCells q 3 (tail.map u8v)) := fun ty => by
        have hsz : (Tryz.prog.info? 5).map (·.size) = some 1 := by
          obtain ⟨i, hi, _, h1, _⟩ := tryz_i5
          rw [hi]
          simp [h1]
        by_cases h0 : L - i = 0
        · have : tail = [] := List.eq_nil_of_length_eq_zero (by omega)
          rw [this, h0]
          exact run_copy_none wr 29 29 ty 5 _ _ _ _ _ _ tryz_u29 hsz (by simp)
        · rw [HA'.out (by omega)]
          have := run_copy_cells (P := Tryz.prog) wr 29 29 ty 5 q 3 3 3 ⟨sb, so + i, none⟩ (L - i) c (tail.map u8v) tryz_u29 hsz (by rw [List.length_map, htn]; show L - i = min (L - i) 3; omega) ?_ ?_ ?_ ?_
          · simpa [goInt, htn] using this
          · intro j v hv
            simp at hv
            obtain ⟨b, hb, rfl⟩ := hv
            obtain ⟨hj, rfl⟩ := List.getElem?_eq_some_iff.1 hb
            have h1 := HS.out (i + j) (by rw [HLL.out]; omega)
            have h2 := (t3.cell (World.block_lt_of_cell? w _ h1) (fun h => by rcases h with h | h; exact HGS.out h; exact HSQ.out h)).trans h1
            rw [Addr.add_lit, Nat.add_assoc, h2]
            subst htl
            rw [List.getElem_drop]
          · intro j hj
            obtain ⟨x, hx⟩ := t4.buf j (by simp at hj; omega)
            rw [hx]
            rfl
          · intro j hj
            rcases t4.fz (3 + j) with h | h
            · exact h
            · simp at hj; omega
          · intro v hv
            simp at hv
            obtain ⟨b, _, rfl⟩ := hv
            rfl
      have HRUN := hid hrun
      have htail := t4.tail tail (by omega)
      rw [htn] at htail
      have hp := Put.setCells q tail 3 wr fun j hj => by
        obtain ⟨x, hx⟩ := t4.buf j (by omega)
        exact ⟨_, hx⟩
      have u6 : (wr.setCells q 3 (tail.map u8v)).cell? ⟨q, 6, none⟩ = some (.int .i64 0) := (hp.rest 6 (Or.inr (by omega))).trans t4.c6
      have uf : (wr.setCells q 3 (tail.map u8v)).frozen? ⟨q, 6, none⟩ = false := by
        rcases t4.fz 6 with h | h
        · exact (hp.free 6).trans h
        · omega
      have hfin : EwPost G q e t (out ++ b64 (bs.take (3 * (L / 3)))) (bs.drop (3 * (L / 3))) w ((wr.setCells q 3 (tail.map u8v)).setCell ⟨q, 6, none⟩ (.int .i64 ((L - i : Nat) : Int))) := by
        obtain ⟨j, hj⟩ := HJ.out
        have e1 : 3 * (L / 3) = i := by omega
        rw [e1, ← htl]
        have hq' : ¬ G' q := fun e => by
          rcases t2 q e with e | e
          · exact HGQ.out e
          · omega
        exact ⟨G', t1.only htail.2 fun k hk e => hq' (e ▸ hk), t2, t3.trans (htail.2.mono fun k _ e => Or.inr e), htail.1⟩
      have HFIN := hid hfin
      generalize hW2 : wr.setCells q 3 (tail.map u8v) = W2 at HRUN u6 uf HFIN
      clear hrun htail hp hfin t1 t2 t3 t4 htl htn hW2
      go_wp2_with (refine Lib.wpList_copy_run _ rfl _ _ 29 29 rfl _ _ rfl rfl (HRUN.out _) ?_)
      go_ret2
      exact ⟨_, rfl, HFIN.out⟩
end Go.Proofs.YtbgckolcimlofaaGreatDoor
