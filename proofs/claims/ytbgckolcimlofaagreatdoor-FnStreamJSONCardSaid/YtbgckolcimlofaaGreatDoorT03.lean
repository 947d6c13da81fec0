/-
  The copy step of a region, between rows of whatever kind; within its bounds.
  The end source: its one Read copies at most 64 bytes out of what is left; where something is left.
-/
import Derived.Test.YtbgckolcimlofaaGreatDoorProg
import Derived.Test.YtbgckolcimlofaaGreatDoorT02
import Derived.Deep.QuietTactic
import Derived.BigQuiet
import Derived.Deep.LoopGhost
import Derived.Deep.DeepCutAuto
import Derived.Handy
import Derived.StillTailTactics
import Derived.Deep.RegionHeld3
import Derived.Laws.CopyOwn
set_option linter.unusedVariables false
set_option linter.unusedSimpArgs false
namespace Go.Proofs.YtbgckolcimlofaaGreatDoor
open Go.RowKit YtbgckolcimlofaaGreatDoorPj

section
variable {ops : Array Oper} {o : Oper} {a : Act} {w : World} {K : Act → World → Prop} {Q : Exit → Act → World → Prop} {E : Prop}
/-- 'append(s, x...)' as a step of a region that draws its order. -/
theorem step_row_append (hg : o.guard = none) (s x : Operand) (ho : o.op = .call { callee := .builtin .append, args := #[s, x], argTypes := #[29, 29] })
    (B : Nat) (v : Value) (xs : List UInt8) (hs : a.eval s = v) (hown : Row w B v xs) (ad : Addr) (m c : Nat) (news : List UInt8) (hx : a.eval x = .slice (some ad) m c) (hl : news.length = m)
    (hnews : ∀ j (hj : j < news.length), w.cell? (ad.add j) = some (u8v news[j])) (hbig : xs.length + news.length ≤ 140737488355328) (hbase : B ≤ w.heap.size)
    (h : ∀ v' w', Row w' B v' (xs ++ news) → w.grownBy w' v.ownBlock → (v'.ownBlock = v.ownBlock ∨ v'.ownBlock = some w.heap.size) → K (a.put o.dst v') w') :
    if Region.wanted o (yielded ops a.tmps) = true then Oper.wp Tryz.prog o a w K Q else E := by
  have hw : Region.wanted o (yielded ops a.tmps) = true := by simp [Region.wanted, hg]
  rw [if_pos hw]
  obtain ⟨i, hi, hz, hz1, hz2⟩ := tryz_i5
  obtain ⟨v', w', hr, h2, h3, h4, h5⟩ := run_append_own_at (P := Tryz.prog) w B 29 o.type 5 i (.int .u8 0) 1 1 tryz_u29 hi hz hz1 hz2 rfl (by decide) v xs.length (xs.map u8v) hown ad m c (news.map u8v) (by simpa using hl) (by
    intro j u hu
    simp at hu
    obtain ⟨b, hb, rfl⟩ := hu
    obtain ⟨hj, rfl⟩ := List.getElem?_eq_some_iff.1 hb
    exact hnews j hj) (by
    intro u hu
    simp at hu
    obtain ⟨b, _, rfl⟩ := hu
    rfl) (by unfold maxLen; omega) (by omega) hbase
  unfold Oper.wp execOp
  simp only [ho, resolve, invoke, builtin, Sem.run_bind, Sem.run_pure, Result.andThen_ok, List.map_toArray, List.map_cons, List.map_nil, hs, hx, hr]
  refine h v' w' ?_ h3 h5
  unfold Row
  rw [List.length_append, List.map_append, hl]
  exact h2
end

theorem Row.ne {w : World} {B : Nat} {v : Value} {xs : List UInt8} (h : Row w B v xs) {n : Nat} (hn : xs.length = n) (h0 : 0 < n) :
    ∃ g cap, v = .slice (some ⟨g, 0, none⟩) n cap ∧ B ≤ g ∧ g < w.heap.size ∧ ∀ j (hj : j < xs.length), w.cell? ((⟨g, 0, none⟩ : Addr).add j) = some (u8v xs[j]) := by
  subst hn
  rcases h.open with ⟨_, rfl⟩ | ⟨g, cap, rfl, h1, h2, _, _, h3⟩
  · simp at h0
  · exact ⟨g, cap, rfl, h1, h2, fun j hj => by rw [Addr.add_lit, Nat.zero_add]; exact h3 j hj⟩
theorem Row.one (w : World) (B : Nat) (b : UInt8) (hB : B ≤ w.heap.size) : Row (w.alloc (.cells #[.int .u8 b.toNat] 5)) B (.slice (some ⟨w.heap.size, 0, none⟩) 1 1) [b] := by
  refine ⟨rfl, Or.inr ⟨w.heap.size, 1, #[.int .u8 b.toNat], rfl, hB, ?_, by simp, by unfold maxLen; omega, rfl, rfl⟩⟩
  show (w.heap.push _)[w.heap.size]? = _
  simp
theorem own1 {g n c k : Nat} (h : (Value.slice (some ⟨g, 0, none⟩) n c).ownBlock = some k) : k = g := (Option.some.inj h).symm
theorem be_length (k u : Nat) : (be k u).length = k := by
  induction k with
  | zero => rfl
  | succ k ih => rw [be, List.length_cons, ih]

set_option maxRecDepth 100000 in
set_option maxHeartbeats 1000000 in
theorem headed (c size u : Nat) (w : World) (hu : u < 18446744073709551616) (hs : size ≤ 8) (hs0 : 0 < size) (hc : c < 256) :
    Calls Tryz.prog 20 #[.agg #[.int .i64 (c : Nat), .int .i64 (size : Nat)], .int .u64 (u : Nat)] w (fun e w' => ∃ v, e = .returned v ∧ Row w' w.heap.size v (UInt8.ofNat c :: be size u) ∧ Only (fun _ => False) w w') := by
  go_enter Tryz.func20, Tryz.ntmps20
  go_wp2
  generalize hw2 : World.alloc w _ = w2
  have c0 : w2.cell? ⟨w.heap.size, 0, none⟩ = some (.int .i64 (c : Nat)) := by rw [← hw2]; clear hw2; go_simp
  have c1 : w2.cell? ⟨w.heap.size, 1, none⟩ = some (.int .i64 (size : Nat)) := by rw [← hw2]; clear hw2; go_simp
  have HO : Hid (Only (fun _ => False) w w2) := hid (by rw [← hw2]; clear hw2; simp)
  have hs2 : w2.heap.size = w.heap.size + 1 := by rw [← hw2]; clear hw2; simp
  have n0 := World.new_ne w2 _ c0
  have n1 := World.new_ne w2 _ c1
  clear hw2
  have hlt2 : w.heap.size < w2.heap.size := by omega
  have e2 : IntKind.u8.wrap (c : Int) = ((UInt8.ofNat c).toNat : Int) := by rw [IntKind.wrap_u8]; simp
  have hrow : Hid (∀ w1, Only (fun _ => False) (w2.alloc (.cells #[.int .u8 (IntKind.u8.wrap c)] 5)).drew w1 → Row w1 w.heap.size (.slice (some ⟨w.heap.size + 1, 0, none⟩) 1 1) [UInt8.ofNat c]) := hid fun w1 h => by
    rw [e2] at h
    have := (Row.one w2 w.heap.size (UInt8.ofNat c) (by omega)).only ((Only.refl (fun _ => False) _).drew.trans h) (fun _ _ h => h)
    rwa [hs2] at this
  have hrow2 : Hid (∀ w1 : World, w.heap.size ≤ w1.heap.size → Row (w1.alloc (.cells #[.int .u8 (IntKind.u8.wrap c)] 5)) w.heap.size (.slice (some ⟨w1.heap.size, 0, none⟩) 1 1) [UInt8.ofNat c]) := hid fun w1 h => by
    rw [e2]
    exact Row.one w1 w.heap.size (UInt8.ofNat c) h
  clear e2
  go_region_held3 (fun w' => w'.cell? ⟨w.heap.size, 0, none⟩ = some (.int .i64 (c : Nat)) ∧ w'.cell? ⟨w.heap.size, 1, none⟩ = some (.int .i64 (size : Nat))) (go_keep)
    (first
      | (go_at_call 31; refine (big u size _ hu hs).mono ?_; rintro e w1 ⟨v, rfl, h1, h2⟩; obtain ⟨g, cap, rfl, hg1, hg2, hg3⟩ := h1.ne (be_length size u) hs0; have H1 := hid h1; have H2 := hid h2; have H3 := hid hg3; have hq : Only (fun _ => False) w2 w1 := Only.trans (by simp) h2; have HQ := hid hq; have k0 := (hq.cell hlt2 (fun h => h)).trans c0; have k1 := (hq.cell hlt2 (fun h => h)).trans c1; clear h1 h2 hg3 hq)
      | (refine step_row_append rfl _ _ rfl w.heap.size (.slice (some ⟨w.heap.size + 1, 0, none⟩) 1 1) [UInt8.ofNat c] rfl (hrow.out _ H2.out) _ _ _ (be size u) rfl (be_length _ _) H3.out (by simp [be_length]; omega) (by have := HQ.out.size; omega) ?_; intro v' w3 r1 r2 r3; have R1 := hid r1; have R2 := hid ((HO.out.trans HQ.out).grown r2 (fun k e hk => by have := own1 e; omega)); have q0 := ((Only.of_grown r2).cell (b := w.heap.size) (o := 0) (by have := HQ.out.size; omega) (fun e => by have := own1 e; omega)).trans k0; have q1 := ((Only.of_grown r2).cell (b := w.heap.size) (o := 1) (by have := HQ.out.size; omega) (fun e => by have := own1 e; omega)).trans k1; clear r1 r2 r3)
      | (refine step_row_append rfl _ _ rfl w.heap.size (.slice (some ⟨_, 0, none⟩) 1 1) [UInt8.ofNat c] rfl (hrow2.out _ (by have := HQ.out.size; omega)) _ _ _ (be size u) rfl (be_length _ _) (fun j hj => by have := H3.out j hj; rw [Addr.add_lit] at this ⊢; exact ((Only.alloc (Only.refl (fun _ => False) _) _).cell (by assumption) (fun h => h)).trans this) (by simp [be_length]; omega) (by have := HQ.out.size; simp; omega) ?_; intro v' w3 r1 r2 r3; have R1 := hid r1; have R2 := hid ((HO.out.trans (HQ.out.alloc _)).grown r2 (fun k e hk => by have := own1 e; have := HQ.out.size; omega)); have q0 := ((Only.of_grown r2).cell (b := w.heap.size) (o := 0) (by have := HQ.out.size; simp; omega) (fun e => by have := own1 e; have := HQ.out.size; omega)).trans (((Only.alloc (Only.refl (fun _ => False) _) _).cell (by have := HQ.out.size; omega) (fun h => h)).trans k0); have q1 := ((Only.of_grown r2).cell (b := w.heap.size) (o := 1) (by have := HQ.out.size; simp; omega) (fun e => by have := own1 e; have := HQ.out.size; omega)).trans (((Only.alloc (Only.refl (fun _ => False) _) _).cell (by have := HQ.out.size; omega) (fun h => h)).trans k1); clear r1 r2 r3))
  all_goals go_wp2
  all_goals
    go_ret
    exact ⟨_, rfl, R1.out, R2.out⟩
end Go.Proofs.YtbgckolcimlofaaGreatDoor
namespace Go.Proofs.YtbgckolcimlofaaGreatDoor
open Go.RowKit YtbgckolcimlofaaGreatDoorPj

theorem only_setRow (w : World) (g : Nat) (cs : Array Value) : Only (fun k => k = g) w (w.setRow g cs) :=
  ⟨rfl, rfl, rfl, by simp [World.setRow], fun k hk hne => setRow_other w g k cs hne⟩
/-- 'copy(dst, src)' of bytes, dst in a block that is known whole. -/
theorem copy_only {o : Oper} (hgd : o.guard = none) {w : World} {ops : Array Oper} {rest : List Oper} {a : Act} {Q : Exit → Act → World → Prop} (d s : Operand)
    (ho : o.op = .call { callee := .builtin .copy, args := #[d, s], argTypes := #[29, 29] })
    (dp sp : Option Addr) (dLen dCap sLen sCap : Nat) (hd : a.eval d = .slice dp dLen dCap) (hs : a.eval s = .slice sp sLen sCap)
    (g off : Nat) (cur : List Value) (hg : w.heap[g]? = some (.cells cur.toArray 5 (0, 0))) (cs : List UInt8) (hn : cs.length = Nat.min sLen dLen)
    (hpos : 0 < cs.length → dp = some ⟨g, off, none⟩ ∧ ∃ ad, sp = some ad ∧ ∀ j (h : j < cs.length), w.cell? (ad.add j) = some (u8v cs[j]))
    (hfit : off + cs.length ≤ cur.length)
    (h : ∀ w', w'.heap[g]? = some (.cells (splice cur off (cs.map u8v)).toArray 5 (0, 0)) → Only (fun k => k = g) w w' → wpList Tryz.prog ops Q rest (a.put o.dst (.int .i64 (cs.length : Nat))) w') :
    wpList Tryz.prog ops Q (o :: rest) a w := by
  have hsz : (Tryz.prog.info? 5).map (·.size) = some 1 := by
    obtain ⟨i, hi, _, h1, _⟩ := tryz_i5
    rw [hi]
    simp [h1]
  by_cases h0 : cs.length = 0
  · obtain rfl : cs = [] := List.eq_nil_of_length_eq_zero h0
    refine wpList_copy_nothing hgd d s 29 29 ho 5 tryz_u29 hsz dp sp dLen dCap sLen sCap hd hs (by simpa using hn.symm) ?_
    exact h w (by simpa [splice] using hg) (Only.refl _ _)
  · obtain ⟨rfl, ad, rfl, hsrc⟩ := hpos (by omega)
    refine wpList_copy_own hgd d s 29 29 ho 5 tryz_u29 hsz g off dLen dCap ad sLen sCap hd hs cur.toArray 5 hg (cs.map u8v) (by simpa using hn) ?_ (by simpa using hfit) ?_ ?_
    · intro j v hv
      simp at hv
      obtain ⟨b, hb, rfl⟩ := hv
      obtain ⟨hj, rfl⟩ := List.getElem?_eq_some_iff.1 hb
      exact hsrc j hj
    · intro v hv
      simp at hv
      obtain ⟨b, _, rfl⟩ := hv
      rfl
    · have := h _ (show _ = _ by simpa [splice] using setRow_heap w g _ _ 5 _ hg) (only_setRow w g _)
      rw [List.length_map]
      simpa [goInt] using this
/-- .. as a step of a region that draws its order. -/
theorem step_copy_only {ops : Array Oper} {o : Oper} {a : Act} {w : World} {K : Act → World → Prop} {Q : Exit → Act → World → Prop} {E : Prop} (hgd : o.guard = none) (d s : Operand)
    (ho : o.op = .call { callee := .builtin .copy, args := #[d, s], argTypes := #[29, 29] })
    (dp sp : Option Addr) (dLen dCap sLen sCap : Nat) (hd : a.eval d = .slice dp dLen dCap) (hs : a.eval s = .slice sp sLen sCap)
    (g off : Nat) (cur : List Value) (hg : w.heap[g]? = some (.cells cur.toArray 5 (0, 0))) (cs : List UInt8) (hn : cs.length = Nat.min sLen dLen)
    (hpos : 0 < cs.length → dp = some ⟨g, off, none⟩ ∧ ∃ ad, sp = some ad ∧ ∀ j (h : j < cs.length), w.cell? (ad.add j) = some (u8v cs[j]))
    (hfit : off + cs.length ≤ cur.length)
    (h : ∀ w', w'.heap[g]? = some (.cells (splice cur off (cs.map u8v)).toArray 5 (0, 0)) → Only (fun k => k = g) w w' → K (a.put o.dst (.int .i64 (cs.length : Nat))) w') :
    if Region.wanted o (yielded ops a.tmps) = true then Oper.wp Tryz.prog o a w K Q else E := by
  have hw : Region.wanted o (yielded ops a.tmps) = true := by simp [Region.wanted, hgd]
  rw [if_pos hw]
  have hsz : (Tryz.prog.info? 5).map (·.size) = some 1 := by
    obtain ⟨i, hi, _, h1, _⟩ := tryz_i5
    rw [hi]
    simp [h1]
  by_cases h0 : cs.length = 0
  · obtain rfl : cs = [] := List.eq_nil_of_length_eq_zero h0
    have hrun := run_copy_none (P := Tryz.prog) w 29 29 o.type 5 dp sp dLen dCap sLen sCap tryz_u29 hsz (by simpa using hn.symm)
    unfold Oper.wp
    simp [execOp, ho, resolve, invoke, builtin, hd, hs, hrun, Result.andThen]
    exact h w (by simpa [splice] using hg) (Only.refl _ _)
  · obtain ⟨rfl, ad, rfl, hsrc⟩ := hpos (by omega)
    have hrun := run_copy_row (P := Tryz.prog) w 29 29 o.type 5 g off dLen dCap ad sLen sCap cur.toArray 5 (cs.map u8v) tryz_u29 hsz hg (by simpa using hn) (by
      intro j v hv
      simp at hv
      obtain ⟨b, hb, rfl⟩ := hv
      obtain ⟨hj, rfl⟩ := List.getElem?_eq_some_iff.1 hb
      exact hsrc j hj) (by simpa using hfit) (by
      intro v hv
      simp at hv
      obtain ⟨b, _, rfl⟩ := hv
      rfl)
    unfold Oper.wp
    simp [execOp, ho, resolve, invoke, builtin, hd, hs, hrun, Result.andThen]
    exact h _ (show _ = _ by simpa [splice] using setRow_heap w g _ _ 5 _ hg) (only_setRow w g _)
/-- Bytes behind an address. -/
def BytesAt (w : World) (A : Option Addr) (bs : List UInt8) : Prop := ∀ j (h : j < bs.length), ∃ b off, A = some ⟨b, off, none⟩ ∧ w.cell? ⟨b, off + j, none⟩ = some (u8v bs[j])
/-- What gives bytes at most so many at once. -/
structure DropsAt (w : World) (d : Nat) (E : Nat → Prop) (rest : List UInt8) : Prop where
  c0 : ∃ D dcap, w.cell? ⟨d, 0, none⟩ = some (.slice D rest.length dcap) ∧ rest.length ≤ dcap ∧ dcap ≤ 9223372036854775807 ∧ (∀ j (h : j < rest.length), ∃ b off, D = some ⟨b, off, none⟩ ∧ E b ∧ w.cell? ⟨b, off + j, none⟩ = some (u8v rest[j]))
  c1 : ∃ c : Nat, w.cell? ⟨d, 1, none⟩ = some (.int .i64 (c : Nat)) ∧ rest.length ≤ c ∧ c ≤ 9223372036854775807
  fz : w.frozen? ⟨d, 0, none⟩ = false
theorem DropsAt.lt {w : World} {d : Nat} {E : Nat → Prop} {rest : List UInt8} (h : DropsAt w d E rest) : d < w.heap.size := by
  obtain ⟨c, h, _⟩ := h.c1
  exact World.block_lt_of_cell? w _ h
theorem DropsAt.only {w w' : World} {d : Nat} {E : Nat → Prop} {rest : List UInt8} {S : Nat → Prop} (h : DropsAt w d E rest) (ho : Only S w w') (hd : ¬ S d) (hE : ∀ k, E k → ¬ S k) : DropsAt w' d E rest := by
  have hl := h.lt
  obtain ⟨⟨D, dcap, c0, h1, h2, h3⟩, ⟨c, c1, h4, h5⟩, fz⟩ := h
  refine ⟨⟨D, dcap, (ho.cell hl hd).trans c0, h1, h2, fun j hj => ?_⟩, ⟨c, (ho.cell hl hd).trans c1, h4, h5⟩, (ho.frozen hl hd).trans fz⟩
  obtain ⟨b, off, hD, hb, hc⟩ := h3 j hj
  exact ⟨b, off, hD, hb, (ho.cell (World.block_lt_of_cell? w _ hc) (hE b hb)).trans hc⟩

theorem src_take {w : World} {D : Option Addr} {E : Nat → Prop} {rest : List UInt8} (h : ∀ j (h : j < rest.length), ∃ b off, D = some ⟨b, off, none⟩ ∧ E b ∧ w.cell? ⟨b, off + j, none⟩ = some (u8v rest[j])) (n : Nat) (h0 : 0 < (rest.take n).length) :
    ∃ ad, D = some ad ∧ ∀ j (h : j < (rest.take n).length), w.cell? (ad.add j) = some (u8v (rest.take n)[j]) := by
  have hl : (rest.take n).length = min n rest.length := List.length_take
  obtain ⟨b, off, hD, _, _⟩ := h 0 (by omega)
  refine ⟨_, hD, fun j hj => ?_⟩
  obtain ⟨b', off', hD', _, hc⟩ := h j (by omega)
  rw [hD] at hD'
  injection hD' with hD'
  injection hD' with e1 e2
  subst e1 e2
  rw [Addr.add_lit, List.getElem_take]
  exact hc
def ReadPost (d rb k : Nat) (E : Nat → Prop) (cur : List Value) (rest : List UInt8) (w : World) (e : Ending) (w' : World) : Prop :=
  e = .returned (.tuple #[.int .i64 ((rest.take 64).length : Nat), .nilIface]) ∧ w'.heap[rb]? = some (.cells (splice cur k ((rest.take 64).map u8v)).toArray 5 (0, 0)) ∧ DropsAt w' d E (rest.drop 64) ∧ Only (fun b => b = rb ∨ b = d) w w'

theorem Drops.rest {w w1 : World} {rb : Nat} {E : Nat → Prop} {rest T : List UInt8} {D : Option Addr} (hT : T = rest.take 64) (hby : ∀ j (h : j < rest.length), ∃ b off, D = some ⟨b, off, none⟩ ∧ E b ∧ w.cell? ⟨b, off + j, none⟩ = some (u8v rest[j]))
    (ho : Only (fun b => b = rb) w w1) (hE : ¬ E rb) (j : Nat) (hj : j < (rest.drop 64).length) : ∃ b off, D = some ⟨b, off, none⟩ ∧ E b ∧ w1.cell? ⟨b, off + T.length + j, none⟩ = some (u8v (rest.drop 64)[j]) := by
  have h1 : (rest.drop 64).length = rest.length - 64 := List.length_drop
  have h2 : T.length = 64 := by rw [hT, List.length_take]; omega
  obtain ⟨b, off, hD, hb, hc⟩ := hby (64 + j) (by omega)
  refine ⟨b, off, hD, hb, ?_⟩
  rw [h2, List.getElem_drop, Nat.add_assoc]
  exact (ho.cell (World.block_lt_of_cell? w _ hc) (fun e => hE (e ▸ hb))).trans hc
theorem drops_end {w w1 : World} {d rb k c : Nat} {E : Nat → Prop} {cur : List Value} {rest T : List UInt8} {z : Int} {A' : Option Addr} {n' c' : Nat} (hT : T = rest.take 64) (hz : z = (T.length : Nat)) (hdl : d < w.heap.size) (hdr : d ≠ rb) (hEd : ¬ E d)
    (hg : w1.heap[rb]? = some (.cells (splice cur k (T.map u8v)).toArray 5 (0, 0))) (ho : Only (fun b => b = rb) w w1) (k1 : w1.cell? ⟨d, 1, none⟩ = some (.int .i64 (c : Nat))) (hc : rest.length ≤ c) (hc2 : c ≤ 9223372036854775807) (k0 : ∃ v, w1.cell? ⟨d, 0, none⟩ = some v) (kf : w1.frozen? ⟨d, 0, none⟩ = false)
    (hn : n' = (rest.drop 64).length) (hc' : n' ≤ c' ∧ c' ≤ 9223372036854775807) (hA : ∀ j (hj : j < (rest.drop 64).length), ∃ b off, A' = some ⟨b, off, none⟩ ∧ E b ∧ w1.cell? ⟨b, off + j, none⟩ = some (u8v (rest.drop 64)[j])) :
    ReadPost d rb k E cur rest w (.returned (.tuple #[.int .i64 z, .nilIface])) (w1.setCell ⟨d, 0, none⟩ (.slice A' n' c')) := by
  obtain ⟨v0, k0⟩ := k0
  subst hz hn
  refine ⟨by rw [← hT], ?_, ⟨⟨A', c', by go_simp, hc'.1, hc'.2, fun j hj => ?_⟩, ⟨c, by go_simp, by simp; omega, hc2⟩, by go_simp⟩, ?_⟩
  · rw [← hT, ← hg]
    exact Below.heap_setCell w1 _ _ rb (fun e => hdr e.symm)
  · obtain ⟨b, off, h1, h2, h3⟩ := hA j hj
    refine ⟨b, off, h1, h2, ?_⟩
    rw [World.cell?_of_block (w := w1) (a := ⟨b, _, none⟩) (Below.heap_setCell w1 _ _ b (fun e => hEd (by have e : b = d := e; exact e ▸ h2)))]
    exact h3
  · exact Only.setCell (S := fun b => b = rb ∨ b = d) (p := ⟨d, 0, none⟩) (ho.mono fun _ _ h => Or.inl h) (fun _ => Or.inr rfl) _
set_option maxRecDepth 100000 in
set_option maxHeartbeats 1000000 in
theorem dropsRead (d rb k pc : Nat) (E : Nat → Prop) (cur : List Value) (rest : List UInt8) (w : World) (hd : DropsAt w d E rest) (hne : 0 < rest.length) (hg : w.heap[rb]? = some (.cells cur.toArray 5 (0, 0))) (hk : k + 64 ≤ cur.length)
    (h1 : d ≠ rb) (h2 : ¬ E d) (h3 : ¬ E rb) :
    Calls Tryz.prog 199 #[.pointer (some ⟨d, 0, none⟩), .slice (some ⟨rb, k, none⟩) 64 pc] w (ReadPost d rb k E cur rest w) := by
  obtain ⟨⟨D, dcap, c0, hl1, hl2, hby⟩, ⟨c, c1, hc1, hc2⟩, fz⟩ := hd
  have HB := hid hby
  have HG := hid hg
  clear hby hg
  generalize hL : rest.length = L at hne c0 hl1 hc1 ⊢
  have hc0 : 1 ≤ c := by omega
  have HL := hid hL
  clear hL
  obtain ⟨T, hT⟩ : ∃ T, T = rest.take 64 := ⟨_, rfl⟩
  have hlen : T.length = min 64 L := by rw [hT, List.length_take, HL.out]
  have hT1 : 1 ≤ T.length := by omega
  have hT2 : T.length ≤ L := by omega
  have hT3 : T.length ≤ 64 := by omega
  have HT := hid hT
  have HLE := hid hlen
  clear hT hlen
  have hdl := World.block_lt_of_cell? w _ c0
  have HC1 := hid c1
  by_cases hcap : T.length = dcap
  all_goals
    have HCap := hid hcap
    go_enter Tryz.func199, Tryz.ntmps199
    go_wp2
    have q1 : ¬ ((c : Int) < 1) := by omega
    have q2 : ¬ ((c : Int) < (L : Int)) := by omega
    have q3 : (L : Int) ≤ (dcap : Int) := by omega
    go_region_held3 (fun w' => w'.cell? ⟨d, 0, none⟩ = some (.slice D L dcap) ∧ w'.cell? ⟨d, 1, none⟩ = some (.int .i64 (c : Nat))) (go_keep)
      (first
        | (refine step_copy_only rfl _ _ rfl _ _ 64 pc _ _ rfl rfl rb k cur HG.out T (by have := HLE.out; show T.length = min L 64; omega) (fun h => ⟨rfl, by have := src_take HB.out 64 (by rw [← HT.out]; exact h); rw [HT.out]; exact this⟩) (by omega) ?_; intro w1 h4 h5; have H4 := hid h4; have H5 : Hid (Only (fun b => b = rb) w w1) := hid ((Only.drew (Only.refl _ _)).trans h5); have k0 := (h5.cell (o := 0) hdl h1).trans c0; have k1 := (h5.cell (o := 1) hdl h1).trans c1; have kf := (h5.frozen (o := 0) hdl h1).trans fz; have hz := h5.size; clear h4 h5))
    go_wp2
    go_ret2
  · have h5 : (rest.drop 64).length = 0 := by rw [List.length_drop]; have := HL.out; have := HLE.out; have := HCap.out; omega
    exact drops_end HT.out (by rw [HCap.out]) hdl h1 h2 H4.out H5.out k1 (by have := HL.out; omega) hc2 ⟨_, k0⟩ kf (by omega) (by omega) (fun j hj => by omega)
  · have h5 : (rest.drop 64).length = L - T.length := by rw [List.length_drop]; have := HL.out; have := HLE.out; omega
    refine drops_end HT.out rfl hdl h1 h2 H4.out H5.out k1 (by have := HL.out; omega) hc2 ⟨_, k0⟩ kf h5.symm (by omega) (fun j hj => ?_)
    obtain ⟨b, off, hD, hb, hc⟩ := Drops.rest HT.out HB.out H5.out h3 j hj
    refine ⟨b, off + T.length, ?_, hb, hc⟩
    rw [hD]
    exact congrArg some (Addr.add_lit b off T.length)
end Go.Proofs.YtbgckolcimlofaaGreatDoor
