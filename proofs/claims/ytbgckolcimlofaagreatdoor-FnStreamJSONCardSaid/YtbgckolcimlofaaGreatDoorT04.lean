/-
  What a source of bytes holds (a row, a place in it, what lies ahead), and how it is carried from world to world; no conditions.
  The source after a copy to the front and after a read; under the source predicate.
  The growing of the row of a source; under the source predicate.
-/
import Derived.Test.YtbgckolcimlofaaGreatDoorProg
import Derived.Test.YtbgckolcimlofaaGreatDoorT03
import Derived.Laws.MakeOwn
import Derived.Deep.RegionLaw
import Derived.IntWalk
set_option linter.unusedVariables false
set_option linter.unusedSimpArgs false
namespace Go.Proofs.YtbgckolcimlofaaGreatDoor
open Go.RowKit YtbgckolcimlofaaGreatDoorPj

/-- What a copy of bytes leaves. -/
def Copied (w w' : World) (dp : Option Addr) (cs : List UInt8) : Prop :=
  (cs.length = 0 ∧ w' = w) ∨ ∃ g off cur, dp = some ⟨g, off, none⟩ ∧ w.heap[g]? = some (.cells (List.toArray cur) 5 (0, 0)) ∧ off + cs.length ≤ cur.length ∧ w'.heap[g]? = some (.cells (splice cur off (cs.map u8v)).toArray 5 (0, 0)) ∧ Only (fun k => k = g) w w'
section
variable {w : World} {ops : Array Oper} {rest : List Oper} {o : Oper} {a : Act} {Q : Exit → Act → World → Prop} {K : Act → World → Prop} {E : Prop}
theorem copy_gen (hgd : o.guard = none) (d s : Operand) (ho : o.op = .call { callee := .builtin .copy, args := #[d, s], argTypes := #[29, 29] })
    (dp sp : Option Addr) (dLen dCap sLen sCap : Nat) (hd : a.eval d = .slice dp dLen dCap) (hs : a.eval s = .slice sp sLen sCap) (cs : List UInt8) (hn : cs.length = Nat.min sLen dLen)
    (hpos : 0 < cs.length → ∃ g off cur, dp = some ⟨g, off, none⟩ ∧ w.heap[g]? = some (.cells (List.toArray cur) 5 (0, 0)) ∧ off + cs.length ≤ cur.length ∧ ∃ ad, sp = some ad ∧ ∀ j (h : j < cs.length), w.cell? (ad.add j) = some (u8v cs[j]))
    (h : ∀ w', Copied w w' dp cs → wpList Tryz.prog ops Q rest (a.put o.dst (.int .i64 (cs.length : Nat))) w') :
    wpList Tryz.prog ops Q (o :: rest) a w := by
  by_cases h0 : cs.length = 0
  · have hsz : (Tryz.prog.info? 5).map (·.size) = some 1 := by
      obtain ⟨i, hi, _, h1, _⟩ := tryz_i5
      rw [hi]
      simp [h1]
    have := h w (Or.inl ⟨h0, rfl⟩)
    rw [h0] at this
    exact wpList_copy_nothing hgd d s 29 29 ho 5 tryz_u29 hsz dp sp dLen dCap sLen sCap hd hs (by rw [← hn]; exact h0) this
  · obtain ⟨g, off, cur, h1, h2, h3, h4⟩ := hpos (by omega)
    exact copy_only hgd d s ho dp sp dLen dCap sLen sCap hd hs g off cur h2 cs hn (fun _ => ⟨h1, h4⟩) h3 fun w' h5 h6 => h w' (Or.inr ⟨g, off, cur, h1, h2, h3, h5, h6⟩)
theorem step_copy_gen (hgd : o.guard = none) (d s : Operand) (ho : o.op = .call { callee := .builtin .copy, args := #[d, s], argTypes := #[29, 29] })
    (dp sp : Option Addr) (dLen dCap sLen sCap : Nat) (hd : a.eval d = .slice dp dLen dCap) (hs : a.eval s = .slice sp sLen sCap) (cs : List UInt8) (hn : cs.length = Nat.min sLen dLen)
    (hpos : 0 < cs.length → ∃ g off cur, dp = some ⟨g, off, none⟩ ∧ w.heap[g]? = some (.cells (List.toArray cur) 5 (0, 0)) ∧ off + cs.length ≤ cur.length ∧ ∃ ad, sp = some ad ∧ ∀ j (h : j < cs.length), w.cell? (ad.add j) = some (u8v cs[j]))
    (h : ∀ w', Copied w w' dp cs → K (a.put o.dst (.int .i64 (cs.length : Nat))) w') :
    if Region.wanted o (yielded ops a.tmps) = true then Oper.wp Tryz.prog o a w K Q else E := by
  by_cases h0 : cs.length = 0
  · have hw : Region.wanted o (yielded ops a.tmps) = true := by simp [Region.wanted, hgd]
    rw [if_pos hw]
    have hsz : (Tryz.prog.info? 5).map (·.size) = some 1 := by
      obtain ⟨i, hi, _, h1, _⟩ := tryz_i5
      rw [hi]
      simp [h1]
    have hrun := run_copy_none (P := Tryz.prog) w 29 29 o.type 5 dp sp dLen dCap sLen sCap tryz_u29 hsz (by rw [← hn]; exact h0)
    have := h w (Or.inl ⟨h0, rfl⟩)
    rw [h0] at this
    unfold Oper.wp
    simp [execOp, ho, resolve, invoke, builtin, hd, hs, hrun, Result.andThen]
    exact this
  · obtain ⟨g, off, cur, h1, h2, h3, h4⟩ := hpos (by omega)
    exact step_copy_only hgd d s ho dp sp dLen dCap sLen sCap hd hs g off cur h2 cs hn (fun _ => ⟨h1, h4⟩) h3 fun w' h5 h6 => h w' (Or.inr ⟨g, off, cur, h1, h2, h3, h5, h6⟩)
end
theorem Copied.only {w w' : World} {dp : Option Addr} {cs : List UInt8} (h : Copied w w' dp cs) {S : Nat → Prop} (hS : ∀ b off, dp = some ⟨b, off, none⟩ → 0 < cs.length → S b) : Only S w w' := by
  rcases h with ⟨_, rfl⟩ | ⟨g, off, cur, h1, h2, h3, h4, h5⟩
  · exact Only.refl _ _
  · by_cases h0 : 0 < cs.length
    · exact h5.mono fun k _ e => e ▸ hS g off h1 h0
    · obtain rfl : cs = [] := List.eq_nil_of_length_eq_zero (by omega)
      refine ⟨h5.os, h5.tape, h5.output, h5.size, fun k hk _ => ?_⟩
      by_cases e : k = g
      · subst e
        rw [h4, h2]
        simp [splice]
      · exact h5.block k hk e
theorem splice_take {α : Type} (cur xs : List α) (off : Nat) (h : off + xs.length ≤ cur.length) : (splice cur off xs).take (off + xs.length) = cur.take off ++ xs := by
  unfold splice
  rw [← List.append_assoc, List.take_append_of_le_length (by simp; omega), List.take_of_length_le (by simp; omega)]
/-- A row known as a list of cells. -/
theorem Row.cur {w : World} {B : Nat} {A : Option Addr} {n cap : Nat} {xs : List UInt8} (h : Row w B (.slice A n cap) xs) (h0 : 0 < cap) :
    ∃ g cur, A = some ⟨g, 0, none⟩ ∧ B ≤ g ∧ w.heap[g]? = some (.cells (List.toArray cur) 5 (0, 0)) ∧ cur.length = cap ∧ n = xs.length ∧ cur.take n = xs.map u8v ∧ n ≤ cap ∧ cap ≤ maxLen := by
  rcases h.2 with ⟨h1, h2⟩ | ⟨g, cap', cur, h1, hb, hg, hn, hm, hs, ht⟩
  · injection h1 with e1 e2 e3
    omega
  · injection h1 with e1 e2 e3
    subst e1 e2 e3
    refine ⟨g, cur.toList, rfl, hb, by simpa using hg, by simpa using hs, rfl, by simpa using ht, hn, hm⟩
theorem Row.of_cur {w : World} {B g n cap : Nat} {cur : List Value} {xs : List UInt8} (hB : B ≤ g) (hg : w.heap[g]? = some (.cells (List.toArray cur) 5 (0, 0))) (hl : cur.length = cap) (hn : n = xs.length) (ht : cur.take n = xs.map u8v) (hc : n ≤ cap) (hm : cap ≤ maxLen) :
    Row w B (.slice (some ⟨g, 0, none⟩) n cap) xs := by
  subst hn
  exact ⟨by simp, Or.inr ⟨g, cap, cur.toArray, rfl, hB, hg, hc, hm, by simp [hl], by simpa using ht⟩⟩
/-- A row cut. -/
theorem Row.cut {w : World} {B : Nat} {A : Option Addr} {n cap : Nat} {xs : List UInt8} (h : Row w B (.slice A n cap) xs) (m : Nat) (hm : m ≤ n) : Row w B (.slice A m cap) (xs.take m) := by
  by_cases hz : cap = 0
  · rcases h.2 with ⟨e, h6⟩ | ⟨g', cap', cur', e, hb, hg, hn, hmm, hs, ht⟩
    · injection e with e1 e2 e3
      have : m = 0 := by omega
      subst this e1 hz
      exact Row.nil w B
    · injection e with e1 e2 e3
      have : m = 0 := by omega
      subst this e1 e3 hz
      exact ⟨by simp, Or.inr ⟨g', 0, cur', by simp, hb, hg, by simp, by unfold maxLen; omega, hs, by simp⟩⟩
  · obtain ⟨g, cur, rfl, hb, hg, hl, hn, ht, hcc, hmm⟩ := h.cur (by omega)
    refine Row.of_cur hb hg hl (by simp; omega) ?_ (by omega) hmm
    have : cur.take m = (cur.take n).take m := by rw [List.take_take, Nat.min_eq_left hm]
    rw [this, ht, List.map_take]
/-- A row into which was copied from its place 'off' on, cut behind that. -/
theorem Row.copied {w w' : World} {B : Nat} {A A' : Option Addr} {n cap off : Nat} {xs cs : List UInt8} (h : Row w B (.slice A n cap) xs) (hc : Copied w w' A' cs) (hA : ∀ g, A = some ⟨g, 0, none⟩ → A' = some ⟨g, off, none⟩) (ho : off ≤ n) (hcap : off + cs.length ≤ cap) :
    Row w' B (.slice A (off + cs.length) cap) (xs.take off ++ cs) := by
  by_cases h0 : cs.length = 0
  · obtain rfl : cs = [] := List.eq_nil_of_length_eq_zero h0
    simpa using (h.only (hc.only (S := fun _ => False) fun _ _ _ h => absurd h (by simp)) (fun _ _ h => h)).cut off ho
  · rcases hc with ⟨h0', rfl⟩ | ⟨g, off', cur, h1, h2, h3, h4, h5⟩
    · omega
    · obtain ⟨g', cur', rfl, hb, hg, hl, hn, ht, hcc, hm⟩ := h.cur (by omega)
      have hA' := hA g' rfl
      rw [hA'] at h1
      injection h1 with h1
      injection h1 with e1 e2
      subst e1 e2
      rw [hg] at h2
      injection h2 with h2
      injection h2 with h2
      have h2 : cur' = cur := by simpa using h2
      subst h2
      refine Row.of_cur hb h4 (by rw [length_splice _ _ _ (by simpa using h3)]; exact hl) (by simp; omega) ?_ (by omega) hm
      have h6 := splice_take cur' (cs.map u8v) off (by simpa using h3)
      have h7 : cur'.take off = (cur'.take n).take off := by rw [List.take_take, Nat.min_eq_left ho]
      rw [List.length_map] at h6
      rw [h6, h7, ht, List.map_append, List.map_take]
end Go.Proofs.YtbgckolcimlofaaGreatDoor
namespace Go.Proofs.YtbgckolcimlofaaGreatDoor
open Go.RowKit YtbgckolcimlofaaGreatDoorPj

/-- A reader of bytes with room for what is looked at ahead; F: the blocks it owns. -/
structure Src (w : World) (F : Nat → Prop) (s : Nat) (room : Value) (at_ : Nat) (buf rest : List UInt8) : Prop where
  c0 : ∃ d E, w.cell? ⟨s, 0, none⟩ = some (.iface 65 (.pointer (some ⟨d, 0, none⟩))) ∧ DropsAt w d E rest ∧ F d ∧ d ≠ s ∧ ¬ E d ∧ ¬ E s ∧ (∀ k, E k → F k) ∧ (∀ k, room.ownBlock = some k → k ≠ d ∧ ¬ E k)
  c1 : w.cell? ⟨s, 1, none⟩ = some room
  c2 : w.cell? ⟨s, 2, none⟩ = some (.int .i64 (at_ : Nat))
  c3 : w.cell? ⟨s, 3, none⟩ = some (.int .i64 64)
  c4 : w.cell? ⟨s, 4, none⟩ = some .nilIface
  f1 : w.frozen? ⟨s, 1, none⟩ = false
  f2 : w.frozen? ⟨s, 2, none⟩ = false
  f4 : w.frozen? ⟨s, 4, none⟩ = false
  row : Row w 0 room buf
  hat : at_ ≤ buf.length
  big : buf.length + rest.length ≤ 1099511627776
  cap : ∀ A n c, room = .slice A n c → c ≤ 4398046511104
  own : ∀ k, room.ownBlock = some k → F k ∧ k ≠ s
  fs : F s
  lt : ∀ k, F k → k < w.heap.size

theorem Src.only {w w' : World} {F S : Nat → Prop} {s at_ : Nat} {room : Value} {buf rest : List UInt8} (h : Src w F s room at_ buf rest) (ho : Only S w w') (hS : ∀ k, F k → ¬ S k) : Src w' F s room at_ buf rest := by
  have hs := hS s h.fs
  have hl := h.lt s h.fs
  obtain ⟨d, E, c0, hd, h1, h2, h3, h4, h5, h6⟩ := h.c0
  exact ⟨⟨d, E, (ho.cell hl hs).trans c0, hd.only ho (hS d h1) (fun k hk => hS k (h5 k hk)), h1, h2, h3, h4, h5, h6⟩, (ho.cell hl hs).trans h.c1, (ho.cell hl hs).trans h.c2, (ho.cell hl hs).trans h.c3, (ho.cell hl hs).trans h.c4,
    (ho.frozen hl hs).trans h.f1, (ho.frozen hl hs).trans h.f2, (ho.frozen hl hs).trans h.f4, h.row.only ho (fun k hk => hS k (h.own k hk).1), h.hat, h.big, h.cap, h.own, h.fs, fun k hk => Nat.lt_of_lt_of_le (h.lt k hk) ho.size⟩
theorem ownBlock_len (A : Option Addr) (n c m c' : Nat) : (Value.slice A n c).ownBlock = (Value.slice A m c').ownBlock := by cases A <;> rfl
/-- New blocks for old ones. -/
def Newer (F F' : Nat → Prop) (w : World) : Prop := ∀ k, F' k → F k ∨ w.heap.size ≤ k
theorem Newer.refl (F : Nat → Prop) (w : World) : Newer F F w := fun _ h => Or.inl h
/-- The reader moved on by what was copied to the front of its room. -/
theorem Src.front {w w1 : World} {F : Nat → Prop} {s at_ : Nat} {A : Option Addr} {n cap : Nat} {buf rest : List UInt8} (h : Src w F s (.slice A n cap) at_ buf rest) (hc : Copied w w1 A (buf.drop at_)) :
    Src ((w1.setCell ⟨s, 1, none⟩ (.slice A (buf.drop at_).length cap)).setCell ⟨s, 2, none⟩ (.int .i64 0)) F s (.slice A (buf.drop at_).length cap) 0 (buf.drop at_) rest ∧
    Only F w ((w1.setCell ⟨s, 1, none⟩ (.slice A (buf.drop at_).length cap)).setCell ⟨s, 2, none⟩ (.int .i64 0)) := by
  have hl := h.lt s h.fs
  have hownA : ∀ b off, A = some ⟨b, off, none⟩ → F b ∧ b ≠ s := fun b off e => h.own b (by rw [e]; rfl)
  have ho : Only (fun k => F k ∧ k ≠ s) w w1 := hc.only fun b off e _ => hownA b off e
  have hn : n = buf.length := by
    have := h.row.open
    rcases this with ⟨e, rfl⟩ | ⟨g, c, e, _⟩
    · injection e with e1 e2 e3
    · injection e with e1 e2 e3
  have hns : ¬ (F s ∧ s ≠ s) := fun e => e.2 rfl
  have k1 := (ho.cell (o := 1) hl hns).trans h.c1
  have k2 := (ho.cell (o := 2) hl hns).trans h.c2
  have k3 := (ho.cell (o := 3) hl hns).trans h.c3
  have k4 := (ho.cell (o := 4) hl hns).trans h.c4
  have g1 := (ho.frozen (o := 1) hl hns).trans h.f1
  have g2 := (ho.frozen (o := 2) hl hns).trans h.f2
  have g4 := (ho.frozen (o := 4) hl hns).trans h.f4
  have hlen : (buf.drop at_).length = buf.length - at_ := List.length_drop
  have hat := h.hat
  have hbig := h.big
  have hcapn : n ≤ cap := by
    rcases h.row.open with ⟨e, _⟩ | ⟨g, c, e, _, _, hc, _⟩
    · injection e with e1 e2 e3; omega
    · injection e with e1 e2 e3; omega
  have hrow := h.row.copied (off := 0) hc (fun g e => e) (by omega) (by omega)
  rw [Nat.zero_add, List.take_zero, List.nil_append] at hrow
  have ho2 : Only (fun k => k = s) w1 ((w1.setCell ⟨s, 1, none⟩ (.slice A (buf.drop at_).length cap)).setCell ⟨s, 2, none⟩ (.int .i64 0)) :=
    Only.setCell (S := fun k => k = s) (p := ⟨s, 2, none⟩) (Only.setCell (S := fun k => k = s) (p := ⟨s, 1, none⟩) (Only.refl _ _) (fun _ => rfl) _) (fun _ => rfl) _
  obtain ⟨d, E, c0, hd, e1, e2, e3, e4, e5, e6⟩ := h.c0
  have k0 := (ho.cell (o := 0) hl hns).trans c0
  have hd1 : DropsAt w1 d E rest := hd.only (hc.only (S := fun k => ∃ off, A = some ⟨k, off, none⟩) fun b off e _ => ⟨off, e⟩) (fun ⟨off, e⟩ => (e6 d (by rw [e]; rfl)).1 rfl) (fun k hk ⟨off, e⟩ => (e6 k (by rw [e]; rfl)).2 hk)
  refine ⟨⟨⟨d, E, by go_simp, hd1.only ho2 e2 (fun k hk e => e4 (e ▸ hk)), e1, e2, e3, e4, e5, ?_⟩, by go_simp, by go_simp, by go_simp, by go_simp, by go_simp, by go_simp, by go_simp, ?_, by simp, by omega, ?_, ?_, h.fs, ?_⟩, ?_⟩
  · exact fun k hk => e6 k (ownBlock_len A _ _ _ _ ▸ hk)
  · refine hrow.only ho2 fun k hk e => ?_
    exact (h.own k (ownBlock_len A _ _ _ _ ▸ hk)).2 e
  · intro A' n' c' e
    injection e with e1 e2 e3
    subst e3
    exact h.cap _ _ _ rfl
  · exact fun k hk => h.own k (ownBlock_len A _ _ _ _ ▸ hk)
  · intro k hk
    have := h.lt k hk
    have := ho.size
    simp
    omega
  · exact (ho.mono fun _ _ h => h.1).trans (ho2.mono fun k _ e => e ▸ h.fs)

/-- New room, the old room's bytes copied into it. -/
theorem Src.grow {w w1 : World} {F : Nat → Prop} {s n g cap c : Nat} {A : Option Addr} {buf rest : List UInt8} (h : Src w F s (.slice A n cap) 0 buf rest) (ho : Only (fun _ => False) w w1) (hrow : Row w1 0 (.slice (some ⟨g, 0, none⟩) n c) buf) (hg : w.heap.size ≤ g) (hc : c ≤ 4398046511104) :
    Src (w1.setCell ⟨s, 1, none⟩ (.slice (some ⟨g, 0, none⟩) n c)) (fun k => F k ∨ k = g) s (.slice (some ⟨g, 0, none⟩) n c) 0 buf rest ∧ Only F w (w1.setCell ⟨s, 1, none⟩ (.slice (some ⟨g, 0, none⟩) n c)) := by
  have hl := h.lt s h.fs
  have h1 := h.only ho (fun _ _ h => h)
  have hg2 : g < w1.heap.size := (hrow.block rfl).2
  have hgs : s ≠ g := by omega
  obtain ⟨d, E, c0, hd, e1, e2, e3, e4, e5, e6⟩ := h1.c0
  have k1 := h1.c1
  have k2 := h1.c2
  have k3 := h1.c3
  have k4 := h1.c4
  have g1 := h1.f1
  have g2 := h1.f2
  have g4 := h1.f4
  have hol := ho.size
  have ho2 : Only (fun k => k = s) w1 (w1.setCell ⟨s, 1, none⟩ (.slice (some ⟨g, 0, none⟩) n c)) :=
    Only.setCell (S := fun k => k = s) (p := ⟨s, 1, none⟩) (Only.refl _ _) (fun _ => rfl) _
  refine ⟨⟨⟨d, E, by go_simp, hd.only ho2 e2 (fun k hk e => e4 (e ▸ hk)), Or.inl e1, e2, e3, e4, fun k hk => Or.inl (e5 k hk), ?_⟩, by go_simp, by go_simp, by go_simp, by go_simp, by go_simp, by go_simp, by go_simp, hrow.only ho2 (fun k hk e => ?_), by simp, h.big, ?_, ?_, Or.inl h.fs, ?_⟩, ?_⟩
  · intro k hk
    have := own1 hk
    subst this
    have hd' := h.lt d e1
    exact ⟨by omega, fun hk => by have := h.lt _ (e5 _ hk); omega⟩
  · have := own1 hk
    omega
  · intro A' n' c' e
    injection e with e1 e2 e3
    omega
  · intro k hk
    have := own1 hk
    subst this
    exact ⟨Or.inr rfl, fun e => hgs e.symm⟩
  · intro k hk
    rcases hk with hk | rfl
    · have := h.lt k hk
      simp
      omega
    · simpa using hg2
  · exact (ho.mono fun _ _ h => h.elim).trans (ho2.mono fun k _ e => e ▸ h.fs)
/-- Bytes were read behind what lay there. -/
theorem Src.took {w w1 : World} {F E : Nat → Prop} {s d rb n cap : Nat} {cur : List Value} {buf rest T : List UInt8} (h : Src w F s (.slice (some ⟨rb, 0, none⟩) n cap) 0 buf rest)
    (h0 : w.cell? ⟨s, 0, none⟩ = some (.iface 65 (.pointer (some ⟨d, 0, none⟩))) ∧ DropsAt w d E rest ∧ F d ∧ d ≠ s ∧ ¬ E d ∧ ¬ E s ∧ (∀ k, E k → F k) ∧ (∀ k, (Value.slice (some ⟨rb, 0, none⟩) n cap).ownBlock = some k → k ≠ d ∧ ¬ E k))
    (hT : T = rest.take 64) (hcur : w.heap[rb]? = some (.cells cur.toArray 5 (0, 0))) (hl : cur.length = cap) (ht : cur.take n = buf.map u8v) (hn : n = buf.length) (hcap : n + 64 ≤ cap) (hm : cap ≤ maxLen)
    (hp : w1.heap[rb]? = some (.cells (splice cur n (T.map u8v)).toArray 5 (0, 0))) (hd : DropsAt w1 d E (rest.drop 64)) (ho : Only (fun b => b = rb ∨ b = d) w w1) :
    Src ((w1.setCell ⟨s, 1, none⟩ (.slice (some ⟨rb, 0, none⟩) (n + T.length) cap)).setCell ⟨s, 4, none⟩ .nilIface) F s (.slice (some ⟨rb, 0, none⟩) (n + T.length) cap) 0 (buf ++ T) (rest.drop 64) ∧
    Only F w ((w1.setCell ⟨s, 1, none⟩ (.slice (some ⟨rb, 0, none⟩) (n + T.length) cap)).setCell ⟨s, 4, none⟩ .nilIface) := by
  have hls := h.lt s h.fs
  obtain ⟨hrF, hrs⟩ := h.own rb rfl
  obtain ⟨c0, _, e1, e2, e3, e4, e5, e6⟩ := h0
  obtain ⟨e7, e8⟩ := e6 rb rfl
  have hTl : T.length ≤ 64 := by rw [hT, List.length_take]; omega
  have hns : ¬ (s = rb ∨ s = d) := fun e => by rcases e with e | e; exact hrs e.symm; exact e2 e.symm
  have k0 := (ho.cell (o := 0) hls hns).trans c0
  have k1 := (ho.cell (o := 1) hls hns).trans h.c1
  have k2 := (ho.cell (o := 2) hls hns).trans h.c2
  have k3 := (ho.cell (o := 3) hls hns).trans h.c3
  have k4 := (ho.cell (o := 4) hls hns).trans h.c4
  have g1 := (ho.frozen (o := 1) hls hns).trans h.f1
  have g2 := (ho.frozen (o := 2) hls hns).trans h.f2
  have g4 := (ho.frozen (o := 4) hls hns).trans h.f4
  have hos := ho.size
  have ho2 : Only (fun k => k = s) w1 ((w1.setCell ⟨s, 1, none⟩ (.slice (some ⟨rb, 0, none⟩) (n + T.length) cap)).setCell ⟨s, 4, none⟩ .nilIface) :=
    Only.setCell (S := fun k => k = s) (p := ⟨s, 4, none⟩) (Only.setCell (S := fun k => k = s) (p := ⟨s, 1, none⟩) (Only.refl _ _) (fun _ => rfl) _) (fun _ => rfl) _
  have hrow : Row w1 0 (.slice (some ⟨rb, 0, none⟩) (n + T.length) cap) (buf ++ T) := by
    refine Row.of_cur (Nat.zero_le _) hp (by rw [length_splice _ _ _ (by simp; omega)]; exact hl) (by simp [hn]) ?_ (by omega) hm
    have h6 := splice_take cur (T.map u8v) n (by simp; omega)
    rw [List.length_map] at h6
    rw [h6, ht, List.map_append]
  have hb := h.big
  refine ⟨⟨⟨d, E, by go_simp, hd.only ho2 e2 (fun k hk e => e4 (e ▸ hk)), e1, e2, e3, e4, e5, fun k hk => e6 k hk⟩, by go_simp, by go_simp, by go_simp, by go_simp, by go_simp, by go_simp, by go_simp, hrow.only ho2 (fun k hk e => ?_), by simp, ?_, ?_, fun k hk => h.own k hk, h.fs, ?_⟩, ?_⟩
  · have := own1 hk
    subst this
    exact hrs e
  · rw [hT, List.length_append, List.length_take, List.length_drop]
    omega
  · intro A' n' c' e
    injection e with e1 e2 e3
    subst e3
    exact h.cap _ _ _ rfl
  · intro k hk
    have := h.lt k hk
    simp
    omega
  · refine (ho.mono fun k _ e => ?_).trans (ho2.mono fun k _ e => e ▸ h.fs)
    rcases e with rfl | rfl
    · exact hrF
    · exact e1
theorem madeCells_u8 (n : Nat) : (madeCells #[.int .u8 0] n).toList = List.replicate n (.int .u8 0) := by
  unfold madeCells
  apply List.ext_getElem
  · simp
  · intro i h1 h2
    simp
    have : i % 1 = 0 := Nat.mod_one i
    simp [this]
theorem Row.made (w : World) (B n c : Nat) (hB : B ≤ w.heap.size) (hn : n ≤ c) (hm : c ≤ maxLen) : Row (w.alloc (.cells (madeCells #[.int .u8 0] c) 5)) B (.slice (some ⟨w.heap.size, 0, none⟩) n c) (List.replicate n 0) := by
  have hg : (w.alloc (.cells (madeCells #[.int .u8 0] c) 5)).heap[w.heap.size]? = some (.cells (List.toArray (List.replicate c (.int .u8 0))) 5 (0, 0)) := by
    show (w.heap.push _)[w.heap.size]? = _
    rw [← madeCells_u8]
    simp
  refine Row.of_cur hB hg (by simp) (by simp) ?_ hn hm
  rw [List.take_replicate, Nat.min_eq_left hn, List.map_replicate]
  rfl
section
variable {w : World} {ops : Array Oper} {rest : List Oper} {o : Oper} {a : Act} {Q : Exit → Act → World → Prop} {K : Act → World → Prop} {E : Prop}
theorem run_make_bytes (w : World) (n c : Nat) (hn : n ≤ c) (hc : c ≤ 281474976710656) :
    (Instr.makeSlice 29 (.int .i64 (n : Nat)) (.int .i64 (c : Nat))).run Tryz.prog w = .ok (.slice (some ⟨w.heap.size, 0, none⟩) n c) (w.alloc (.cells (madeCells #[.int .u8 0] c) 5)) := by
  obtain ⟨i, hi, hz, hz1, hz2⟩ := tryz_i5
  have := run_make (P := Tryz.prog) w 29 5 i (.int .u8 0) tryz_u29 hi hz .i64 .i64 n c (by omega) (by omega) (by rw [hz2]; omega) (by omega)
  rw [this, hz1]
  simp [Value.cells]
theorem step_make (hgd : o.guard = none) (l c : Operand) (ho : o.op = .makeSlice 29 l c) (n m : Nat) (hl : a.eval l = .int .i64 (n : Nat)) (hc : a.eval c = .int .i64 (m : Nat)) (hn : n ≤ m) (hm : m ≤ 281474976710656)
    (h : K (a.put o.dst (.slice (some ⟨w.heap.size, 0, none⟩) n m)) (w.alloc (.cells (madeCells #[.int .u8 0] m) 5))) :
    if Region.wanted o (yielded ops a.tmps) = true then Oper.wp Tryz.prog o a w K Q else E := by
  have hw : Region.wanted o (yielded ops a.tmps) = true := by simp [Region.wanted, hgd]
  rw [if_pos hw]
  unfold Oper.wp
  simp [execOp, ho, hl, hc, run_make_bytes w n m hn hm, Result.andThen]
  exact h
theorem make_bytes (hgd : o.guard = none) (l c : Operand) (ho : o.op = .makeSlice 29 l c) (n m : Nat) (hl : a.eval l = .int .i64 (n : Nat)) (hc : a.eval c = .int .i64 (m : Nat)) (hn : n ≤ m) (hm : m ≤ 281474976710656)
    (h : wpList Tryz.prog ops Q rest (a.put o.dst (.slice (some ⟨w.heap.size, 0, none⟩) n m)) (w.alloc (.cells (madeCells #[.int .u8 0] m) 5))) :
    wpList Tryz.prog ops Q (o :: rest) a w := by
  refine wpList_plain hgd fun K hK => ?_
  unfold Oper.wp
  simp [execOp, ho, hl, hc, run_make_bytes w n m hn hm, Result.andThen]
  exact hK _ _ h
end
end Go.Proofs.YtbgckolcimlofaaGreatDoor
namespace Go.Proofs.YtbgckolcimlofaaGreatDoor
open Go.RowKit YtbgckolcimlofaaGreatDoorPj

def MorePost (F : Nat → Prop) (s n : Nat) (all : List UInt8) (w : World) (e : Ending) (w' : World) : Prop :=
  e = .returned (.tuple #[]) ∧ ∃ F' room atq buf' rest', Src w' F' s room atq buf' rest' ∧ buf'.drop atq ++ rest' = all ∧ n + atq ≤ buf'.length ∧ Newer F F' w ∧ Only F w w'
theorem Src.room {w : World} {F : Nat → Prop} {s at_ : Nat} {room : Value} {buf rest : List UInt8} (h : Src w F s room at_ buf rest) : ∃ A cap, room = .slice A buf.length cap ∧ buf.length ≤ cap ∧ cap ≤ 4398046511104 := by
  rcases h.row.open with ⟨rfl, rfl⟩ | ⟨g, cap, rfl, _, _, hc, _⟩
  · exact ⟨none, 0, rfl, by simp, by simp⟩
  · exact ⟨_, cap, rfl, hc, h.cap _ _ _ rfl⟩
set_option maxRecDepth 100000 in
set_option maxHeartbeats 1000000 in
theorem more_has (w : World) (F : Nat → Prop) (s at_ n : Nat) (room : Value) (buf rest : List UInt8) (h : Src w F s room at_ buf rest) (hn : n + at_ ≤ buf.length) :
    Calls Tryz.prog 63 #[.pointer (some ⟨s, 0, none⟩), .int .i64 (n : Nat)] w (MorePost F s n (buf.drop at_ ++ rest) w) := by
  have HS := hid h
  obtain ⟨A, cap, rfl, hc1, hc2⟩ := h.room
  have c1 := h.c1
  have c2 := h.c2
  have c4 := h.c4
  have hbig := h.big
  have hb : buf.length ≤ 1099511627776 := by omega
  clear h hbig
  generalize hB : buf.length = nb at hn c1 hc1 hb
  have HB := hid hB
  clear hB
  have hw1 : IntKind.i64.wrap ((nb : Int) - (at_ : Int)) = (nb : Int) - at_ := IntWalk.i64_in _ (by omega)
  have hd1 : decide ((n : Int) ≤ (nb : Int) - at_) = true := by simp; omega
  go_enter Tryz.func63, Tryz.ntmps63
  go_wp2
  go_quiet (fail)
  go_wp2
  go_end0
  exact ⟨rfl, F, _, at_, buf, rest, HS.out.only (Only.drewN (Only.refl (fun _ => False) _) _) (fun _ _ h => h), rfl, by have := HB.out; omega, Newer.refl _ _, by simp⟩
end Go.Proofs.YtbgckolcimlofaaGreatDoor
