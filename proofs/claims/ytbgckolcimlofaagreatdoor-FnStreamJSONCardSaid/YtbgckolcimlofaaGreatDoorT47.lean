/-
  A value pushed behind a row of values; within the bound.
  The parser: number; for whole numbers.
-/
import Derived.Test.YtbgckolcimlofaaGreatDoorProg
import Derived.Test.YtbgckolcimlofaaGreatDoorT17
import Derived.Test.YtbgckolcimlofaaGreatDoorT05
import Derived.Test.YtbgckolcimlofaaGreatDoorT46
set_option linter.unusedVariables false
set_option linter.unusedSimpArgs false
namespace Go.Proofs.YtbgckolcimlofaaGreatDoor
open Go.RowKit YtbgckolcimlofaaGreatDoorPj

section
variable {ops : Array Oper} {o : Oper} {a : Act} {w : World} {K : Act → World → Prop} {Q : Exit → Act → World → Prop} {E : Prop}
/-- 'append(s, p)' as a step of a region that draws its order. -/
theorem step_prow_push (hg : o.guard = none) (s x : Operand) (ho : o.op = .call { callee := .builtin .append, args := #[s, x], argTypes := #[23, 23] }) {w0 : World} {base : Nat} {ok : Nat → Prop}
    (v : Value) (ps : List P) (hs : a.eval s = v) (hown : PRow w0 base ok v ps) (p : P) (cs : List Value) {gz : Nat} (hx : a.eval x = .slice (some ⟨gz, 0, none⟩) 1 1) (hgz : w0.heap.size = gz) (hw : w = w0.alloc (.cells cs.toArray 25))
    (hp : IsPk w0 (fun k => ok k ∧ v.ownBlock ≠ some k) p cs) (hok : ∀ k, w0.heap.size ≤ k → ok k) (hbase : base ≤ w0.heap.size) (hbig : ps.length + 1 ≤ 1000000)
    (h : ∀ v' w', PRow w' base ok v' (ps ++ [p]) → w0.grownBy w' v.ownBlock → K (a.put o.dst v') w') :
    if Region.wanted o (yielded ops a.tmps) = true then Oper.wp Tryz.prog o a w K Q else E := by
  have hwt : Region.wanted o (yielded ops a.tmps) = true := by simp [Region.wanted, hg]
  rw [if_pos hwt]
  subst hw hgz
  obtain ⟨i, hi, hz, hz1, hz2⟩ := tryz_i25
  obtain ⟨css, hcs, hrow⟩ := hown.row
  have h0 : Only (fun _ => False) w0 (w0.alloc (.cells cs.toArray 25)) := by simp
  have h5 : ∀ j, j < ps.length → (css j).length = 5 := fun j hj => (hcs j hj).len.1
  obtain ⟨v', w', hr, h1, h2, h3, h4⟩ := run_append_own_at (P := Tryz.prog) (w0.alloc (.cells cs.toArray 25)) base 23 o.type 25 i _ 5 64 tryz_u23 hi hz hz1 hz2 rfl (by decide) v ps.length _ (hrow.alloc _) ⟨w0.heap.size, 0, none⟩ 1 1 cs (by rw [hp.len.1]) (by
    intro j u hu
    rw [Addr.add_lit, Nat.zero_add, World.cell?_alloc_mark]
    simpa using hu) hp.len.2 (by unfold maxLen; omega) (by omega) (by simp; omega)
  unfold Oper.wp execOp
  simp only [ho, resolve, invoke, builtin, Sem.run_bind, Sem.run_pure, Result.andThen_ok, List.map_toArray, List.map_cons, List.map_nil, hs, hx, hr]
  have hgr : w0.grownBy w' v.ownBlock := ⟨h2.os, h2.tape, h2.output, by have := h2.size; simp at this; omega, fun k hk hne => by
      rw [h2.block k (by simp; omega) hne]
      exact h0.block k hk (fun h => h)⟩
  have hown' : ∀ k, v'.ownBlock = some k → v.ownBlock = some k ∨ w0.heap.size ≤ k := fun k hk => by
    rcases h4 with h4 | h4
    · exact Or.inl (h4 ▸ hk)
    · rw [h4] at hk
      injection hk with hk
      simp at hk
      exact Or.inr (by omega)
  refine h v' w' ⟨fun k hk => ?_, fun j => if j < ps.length then css j else cs, fun j hj => ?_, ?_⟩ hgr
  · rcases hown' k hk with h | h
    · exact hown.own k h
    · exact hok k h
  · have keep : ∀ {q : P} {c : List Value}, IsPk w0 (fun k => ok k ∧ v.ownBlock ≠ some k) q c → IsPk w' (fun k => ok k ∧ v'.ownBlock ≠ some k) q c := fun hq => hq.keep fun k hk hok => by
      refine ⟨⟨hok.1, fun e => ?_⟩, hgr.block k hk fun e => hok.2 e.symm⟩
      rcases hown' k e with h | h
      · exact hok.2 h
      · omega
    by_cases hjl : j < ps.length
    · have e : (ps ++ [p])[j] = ps[j] := List.getElem_append_left hjl
      simp only [if_pos hjl, e]
      exact keep (hcs j hjl)
    · have : j = ps.length := by simp at hj; omega
      subst this
      simp
      exact keep hp
  · rw [List.length_append, List.length_singleton, List.range_succ, List.flatMap_append]
    have e1 : (List.range ps.length).flatMap (fun j => if j < ps.length then css j else cs) = (List.range ps.length).flatMap css := by
      exact flatMap_eq fun j hj => by rw [if_pos (List.mem_range.1 hj)]
    rw [e1]
    simpa using h1
end
end Go.Proofs.YtbgckolcimlofaaGreatDoor
namespace Go.Proofs.YtbgckolcimlofaaGreatDoor
open Go.RowKit YtbgckolcimlofaaGreatDoorPj

/-- 'value' reads a value, with so many levels. -/
def ValAt (lv : Nat) (q : P) : Prop := ∀ (w : World) (j : Nat) (s : ByteArray) (at_ : Nat) (post : List UInt8), Jt w j s at_ → Ahead s at_ (js q ++ post) → NoDig post → Lib.Utf8Tabs 1 2 w →
  Calls Tryz.prog 23 #[.pointer (some ⟨j, 0, none⟩), .int .i64 (lv : Nat)] w (PackPost (rd q) w j s (at_ + (js q).length))
/-- Where a list stands that is being read. -/
structure LState (w : World) (j : Nat) (s : ByteArray) (kd : Int) (wr : World) (at_ : Nat) (vv : Value) (ps : List P) : Prop where
  only : Only (fun k => k = j) w wr
  jt : Jt wr j s at_
  r5 : Five wr w.heap.size (.int .i64 0) (.int .u64 0) (.string ⟨#[]⟩) (.int .i64 0) (.slice none 0 0)
  v5 : Five wr (w.heap.size + 1) (.int .i64 kd) (.int .u64 0) (.string ⟨#[]⟩) (.int .i64 0) vv
  row : PRow wr (w.heap.size + 2) (fun k => w.heap.size + 2 ≤ k) vv ps
  tabs : Lib.Utf8Tabs 1 2 wr
theorem LState.lt {w : World} {j : Nat} {s : ByteArray} {kd : Int} {wr : World} {at_ : Nat} {vv : Value} {ps : List P} (h : LState w j s kd wr at_ vv ps) : w.heap.size + 2 ≤ wr.heap.size := by
  have := h.v5.lt
  omega
theorem tabs_j {w wr : World} {j : Nat} {s : ByteArray} {n : Nat} (hT : Lib.Utf8Tabs 1 2 w) (hj : Jt w j s n) (ho : Only (fun k => k = j) w wr) : Lib.Utf8Tabs 1 2 wr := by
  have hj1 : j ≠ 1 := fun e => by subst e; have := hT.1 0 (by omega); rw [hj.c0] at this; simp at this
  have hj2 : j ≠ 2 := fun e => by subst e; have := (hT.2 0 (by omega)).1; rw [Nat.mul_zero, hj.c0] at this; simp at this
  exact ⟨fun c hc => (ho.cell (World.block_lt_of_cell? w _ (hT.1 c hc)) (fun e => hj1 e.symm)).trans (hT.1 c hc), fun i hi => ⟨(ho.cell (World.block_lt_of_cell? w _ (hT.2 i hi).1) (fun e => hj2 e.symm)).trans (hT.2 i hi).1, (ho.cell (World.block_lt_of_cell? w _ (hT.2 i hi).2) (fun e => hj2 e.symm)).trans (hT.2 i hi).2⟩⟩
/-- The place moved on, nothing else. -/
theorem LState.moved {w : World} {j : Nat} {s : ByteArray} {kd : Int} {wr w1 : World} {at_ n : Nat} {vv : Value} {ps : List P} (h : LState w j s kd wr at_ vv ps) (hj : j < w.heap.size) (hm : Moved wr j s n w1) : LState w j s kd w1 n vv ps :=
  ⟨h.only.trans hm.1, hm.2, h.r5.only hm.1 (fun e => by have e : w.heap.size = j := e; omega), h.v5.only hm.1 (fun e => by have e : w.heap.size + 1 = j := e; omega), h.row.only hm.1 (fun k _ hk e => by have e : k = j := e; omega), tabs_j h.tabs h.jt hm.1⟩
/-- One more is put behind. -/
theorem LState.push {w : World} {j : Nat} {s : ByteArray} {kd : Int} {wr w2 : World} {at_ : Nat} {vv v' : Value} {ps ps' : List P} (h : LState w j s kd wr at_ vv ps) (hj : j < w.heap.size) (hr : PRow w2 (w.heap.size + 2) (fun k => w.heap.size + 2 ≤ k) v' ps') (hg : wr.grownBy w2 vv.ownBlock) :
    LState w j s kd (w2.setCell ⟨w.heap.size + 1, 4, none⟩ v') at_ v' ps' := by
  have hown : ∀ k, vv.ownBlock = some k → w.heap.size + 2 ≤ k := fun k hk => (h.row.block hk).1
  have ho : Only (fun k => vv.ownBlock = some k) wr w2 := Only.of_grown hg
  have hs : Only (fun k => k = w.heap.size + 1) w2 (w2.setCell ⟨w.heap.size + 1, 4, none⟩ v') := Only.setCell (S := fun k => k = w.heap.size + 1) (p := ⟨w.heap.size + 1, 4, none⟩) (Only.refl _ _) (fun _ => rfl) _
  have hle := h.lt
  refine ⟨(h.only.trans' ho fun i hi e => ?_).trans' hs fun i hi e => ?_, (h.jt.only ho fun e => ?_).only hs fun e => ?_, (h.r5.only ho fun e => ?_).only hs fun e => ?_, (h.v5.only ho fun e => ?_).set4 _, hr.only hs fun k _ hk e => ?_, ?_⟩
  · have := hown i e; omega
  · have e : i = w.heap.size + 1 := e; omega
  · have := hown j e; omega
  · have e : j = w.heap.size + 1 := e; omega
  · have := hown _ e; omega
  · have e : w.heap.size = w.heap.size + 1 := e; omega
  · have := hown _ e; omega
  · have e : k = w.heap.size + 1 := e; omega
  · have hc : ∀ (b o : Nat) (u : Value), wr.cell? ⟨b, o, none⟩ = some u → b = 1 ∨ b = 2 → w.heap.size + 1 ≠ b ∧ vv.ownBlock ≠ some b → (w2.setCell ⟨w.heap.size + 1, 4, none⟩ v').cell? ⟨b, o, none⟩ = some u := fun b o u hu _ hb => by
      rw [hs.cell (by have := World.block_lt_of_cell? wr _ hu; have := ho.size; simp at *; omega) (fun e => hb.1 (by have e : b = w.heap.size + 1 := e; omega)), ho.cell (World.block_lt_of_cell? wr _ hu) hb.2]
      exact hu
    have hn1 : w.heap.size + 1 ≠ 1 ∧ vv.ownBlock ≠ some 1 := ⟨fun e => by omega, fun e => by have := hown 1 e; omega⟩
    have hn2 : w.heap.size + 1 ≠ 2 ∧ vv.ownBlock ≠ some 2 := by
      refine ⟨fun e => ?_, fun e => by have := hown 2 e; omega⟩
      have h1 := (h.tabs.2 0 (by omega)).1
      have h2 := h.v5.c0
      rw [Nat.mul_zero] at h1
      rw [e, h1] at h2
      simp at h2
    exact ⟨fun c hc' => hc 1 c _ (h.tabs.1 c hc') (Or.inl rfl) hn1, fun i hi => ⟨hc 2 _ _ (h.tabs.2 i hi).1 (Or.inr rfl) hn2, hc 2 _ _ (h.tabs.2 i hi).2 (Or.inr rfl) hn2⟩⟩
theorem LState.same {w : World} {j : Nat} {s : ByteArray} {kd : Int} {wr w1 : World} {at_ : Nat} {vv : Value} {ps : List P} (h : LState w j s kd wr at_ vv ps) (ho : Only (fun _ => False) wr w1) : LState w j s kd w1 at_ vv ps :=
  ⟨h.only.trans (ho.mono fun _ _ e => e.elim), h.jt.only ho (fun e => e), h.r5.only ho (fun e => e), h.v5.only ho (fun e => e), h.row.only ho (fun _ _ _ e => e), tabs_j h.tabs h.jt (ho.mono fun _ _ e => e.elim)⟩
end Go.Proofs.YtbgckolcimlofaaGreatDoor
