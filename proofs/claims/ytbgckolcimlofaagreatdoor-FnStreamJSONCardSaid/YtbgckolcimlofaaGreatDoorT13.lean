/-
  A text appended to a row; within the bound.
  pick and big, the choice among the forms of a number; for every number.
-/
import Derived.Test.YtbgckolcimlofaaGreatDoorProg
import Derived.Test.YtbgckolcimlofaaGreatDoorT12
import Derived.Deep.QuietTactic
import Derived.BigQuiet
import Derived.Deep.LoopGhost
import Derived.Deep.DeepCutAuto
import Derived.Handy
import Derived.StillTailTactics
import Derived.Deep.RegionHeld3
set_option linter.unusedVariables false
set_option linter.unusedSimpArgs false
namespace Go.Proofs.YtbgckolcimlofaaGreatDoor
open Go.RowKit YtbgckolcimlofaaGreatDoorPj

theorem FRow.blk {w : World} {B : Nat} {A : Option Addr} {n cap : Nat} {fs : List (Nat × Nat)} (h : FRow w B (.slice A n cap) fs) : ∀ b off, A = some ⟨b, off, none⟩ → B ≤ b := by
  intro b off hA
  subst hA
  exact (h.block rfl).1
/-- A head: its length within the code, or in some bytes behind it. -/
def Head (fixed : Int) (under n : Nat) (fs : List (Nat × Nat)) (bs : List UInt8) : Prop :=
  (0 ≤ fixed ∧ n < under ∧ bs = [UInt8.ofNat (fixed.toNat + n)]) ∨ ∃ f ∈ fs, holds n f = true ∧ bs = UInt8.ofNat f.1 :: be f.2 n
theorem may_get {w w1 w2 : World} {f n M : Nat} {fs : List (Nat × Nat)} {A1 : Option Addr} (h3 : FsAt w1 A1 (fs.filter (holds n))) (hM : (fs.filter (holds n)).length = M) (hb : ∀ b off, A1 = some ⟨b, off, none⟩ → w.heap.size ≤ b)
    (ho : Only (fun k => k = f) w1 w2) (hf : f < w.heap.size) (q : Nat) (hq : q < M) :
    ∃ g off c s, A1 = some ⟨g, off, none⟩ ∧ (c, s) ∈ fs ∧ holds n (c, s) = true ∧ w2.cell? ⟨g, off + q * 2, none⟩ = some (.int .i64 (c : Nat)) ∧ w2.cell? ⟨g, off + q * 2 + 1, none⟩ = some (.int .i64 (s : Nat)) := by
  subst hM
  obtain ⟨g, off, hA, c0, c1⟩ := h3 q hq
  have hm := List.mem_filter.1 (List.getElem_mem hq)
  have hgw := hb g off hA
  have hl := World.block_lt_of_cell? _ _ c0
  have hne : ¬ g = f := by omega
  exact ⟨g, off, _, _, hA, hm.1, hm.2, (ho.cell hl hne).trans c0, (ho.cell hl hne).trans c1⟩
def HeadPost (f : Nat) (fixed : Int) (under n : Nat) (fs : List (Nat × Nat)) (w : World) (e : Ending) (w' : World) : Prop :=
  ∃ v bs, e = .returned v ∧ Row w' w.heap.size v bs ∧ Head fixed under n fs bs ∧ Only (fun k => k = f) w w' ∧ FormsAt w' f

set_option maxRecDepth 100000 in
set_option maxHeartbeats 1000000 in
theorem putHead_var (f : Nat) (fixed : Int) (under n : Nat) (A : Option Addr) (cap : Nat) (fs : List (Nat × Nat)) (w : World) (hff : FormsAt w f) (hfx : fixed < 0 ∨ under ≤ n) (hfl : -1 ≤ fixed ∧ fixed ≤ 255) (hn : n ≤ 1000000) (hu : under ≤ 1000) (hl : fs.length ≤ 10) (hf : FsAt w A fs)
    (hs : ∀ f ∈ fs, 0 < f.2 ∧ f.2 ≤ 8 ∧ f.1 < 256) (hex : ∃ f ∈ fs, holds n f = true) :
    Calls Tryz.prog 21 #[.pointer (some ⟨f, 0, none⟩), .int .i64 (n : Nat), .int .i64 fixed, .int .i64 (under : Nat), .slice A fs.length cap] w (HeadPost f fixed under n fs w) := by
  have HF := hid hf
  have HFF := hid hff
  have HS := hid hs
  have HEX := hid hex
  clear hf hs hff hex
  have hpos : 0 < (fs.filter (holds n)).length := by
    obtain ⟨g, hg, hh⟩ := HEX.out
    exact List.length_pos_of_mem (List.mem_filter.2 ⟨hg, hh⟩)
  have hle : (fs.filter (holds n)).length ≤ 10 := Nat.le_trans (List.length_filter_le _ _) hl
  have hfx2 : ¬ (0 ≤ fixed ∧ (n : Int) < under) := by omega
  go_enter Tryz.func21, Tryz.ntmps21
  go_wp2_with (first
    | (go_at_call 33; refine (sizes n A cap fs _ (by omega) hl HF.out (fun f hf => (HS.out f hf).2.1)).mono ?_; rintro e w1 ⟨v, rfl, h1, h2⟩; obtain ⟨A1, cap1, rfl, h3⟩ := h1.at; have H4 := hid h1.blk; have hsz := h2.size; have H2 := hid h2; have H3 := hid h3; generalize hM : (fs.filter (holds n)).length = M at *; have HM := hid hM; clear h1 h2 h3 hM)
    | (go_at_call 32; refine (pick f M _ (HFF.out.only H2.out (fun h => h)) hpos (by omega)).mono ?_; rintro e w2 ⟨r, hr, rfl, h1, h2⟩; obtain ⟨b, off, rfl, c0, c1⟩ := H3.out r (by have := HM.out; omega); have hbw := H4.out b off rfl; have hbl := World.block_lt_of_cell? _ _ c0; have hne : ¬ (b = f) := (by have := HFF.out.lt; omega); have d0 := (h1.cell hbl hne).trans c0; have d1 := (h1.cell hbl hne).trans c1; have HM2 := hid (List.mem_filter.1 (List.getElem_mem (l := fs.filter (holds n)) (n := r) (by have := HM.out; omega))); generalize hfj : (fs.filter (holds n))[r]'(by have := HM.out; omega) = ff at *; obtain ⟨c, s⟩ := ff; dsimp only at d0 d1; have H5 := hid h1; have H6 := hid h2; clear h1 h2 hfj c0 c1)
    | (go_at_call 20; refine (headed c s n _ (by omega) (HS.out _ HM2.out.1).2.1 (HS.out _ HM2.out.1).1 (HS.out _ HM2.out.1).2.2).mono ?_; rintro e w3 ⟨v, rfl, h1, h2⟩; have H7 := hid h1; have H8 := hid h2; clear h1 h2))
  all_goals
    go_ret
    refine ⟨_, _, rfl, H7.out.base fun k hk => ?_, Or.inr ⟨(c, s), HM2.out.1, HM2.out.2, rfl⟩, ?_, H6.out.only H8.out (fun h => h)⟩
    · have := (H7.out.block hk).1
      have := H5.out.size
      have := H2.out.size
      omega
    · exact ((H2.out.mono fun _ _ h => h.elim).trans H5.out).trans (H8.out.mono fun _ _ h => h.elim)

set_option maxRecDepth 100000 in
set_option maxHeartbeats 1000000 in
theorem putHead_fix (f : Nat) (fixed under n : Nat) (A : Option Addr) (cap : Nat) (fs : List (Nat × Nat)) (w : World) (hff : FormsAt w f) (hfx : n < under) (hfl : fixed ≤ 255) (hor : bits .or .i64 fixed n = ((fixed + n : Nat) : Int)) (hu : under ≤ 1000) (hl : fs.length ≤ 10) (hf : FsAt w A fs)
    (hs : ∀ f ∈ fs, 0 < f.2 ∧ f.2 ≤ 8 ∧ f.1 < 256) :
    Calls Tryz.prog 21 #[.pointer (some ⟨f, 0, none⟩), .int .i64 (n : Nat), .int .i64 (fixed : Nat), .int .i64 (under : Nat), .slice A fs.length cap] w (HeadPost f fixed under n fs w) := by
  have HF := hid hf
  have HFF := hid hff
  have HS := hid hs
  have HOR := hid hor
  clear hf hs hff hor
  have hle : (fs.filter (holds n)).length ≤ 10 := Nat.le_trans (List.length_filter_le _ _) hl
  go_enter Tryz.func21, Tryz.ntmps21
  go_wp2_with (first
    | (go_at_call 33; refine (sizes n A cap fs _ (by omega) hl HF.out (fun f hf => (HS.out f hf).2.1)).mono ?_; rintro e w1 ⟨v, rfl, h1, h2⟩; obtain ⟨A1, cap1, rfl, h3⟩ := h1.at; have H4 := hid h1.blk; have hsz := h2.size; have H2 := hid h2; have H3 := hid h3; generalize hM : (fs.filter (holds n)).length = M at *; have HM := hid hM; clear h1 h2 h3 hM)
    | (go_at_call 32; refine (pick f (M + 1) _ (HFF.out.only H2.out (fun h => h)) (by omega) (by omega)).mono ?_; rintro e w2 ⟨r, hr, rfl, h1, h2⟩; have H5 := hid h1; have H6 := hid h2; have HR := hid (may_get H3.out HM.out H4.out h1 HFF.out.lt); clear h1 h2; rcases r with _ | q; rotate_left 1; obtain ⟨g, off, c, s, rfl, hm1, hm2, d0, d1⟩ := HR.out q (by omega); have HM1 := hid hm1; have HM2 := hid hm2; clear hm1 hm2; rotate_left 1)
    | (go_at_call 20; refine (headed c s n _ (by omega) (HS.out _ HM1.out).2.1 (HS.out _ HM1.out).1 (HS.out _ HM1.out).2.2).mono ?_; rintro e w3 ⟨v, rfl, h1, h2⟩; have H7 := hid h1; have H8 := hid h2; clear h1 h2))
  · go_ret
    have hrow := Row.one w2 w.heap.size (UInt8.ofNat (fixed + n)) (by have := H5.out.size; have := H2.out.size; omega)
    have e : ((UInt8.ofNat (fixed + n)).toNat : Int) = bits .or .i64 fixed n % 256 := by rw [HOR.out]; simp
    rw [e] at hrow
    exact ⟨_, _, rfl, hrow, Or.inl ⟨by omega, hfx, rfl⟩, (((H2.out.mono fun _ _ h => h.elim).trans H5.out).alloc _), H6.out.only (Only.alloc (Only.refl (fun _ => False) _) _) (fun h => h)⟩
  · go_ret
    refine ⟨_, _, rfl, H7.out.base fun k hk => ?_, Or.inr ⟨(c, s), HM1.out, HM2.out, rfl⟩, ?_, H6.out.only H8.out (fun h => h)⟩
    · have := (H7.out.block hk).1
      have := H5.out.size
      have := H2.out.size
      omega
    · exact ((H2.out.mono fun _ _ h => h.elim).trans H5.out).trans (H8.out.mono fun _ _ h => h.elim)
end Go.Proofs.YtbgckolcimlofaaGreatDoor
namespace Go.Proofs.YtbgckolcimlofaaGreatDoor
open Go.RowKit YtbgckolcimlofaaGreatDoorPj
theorem tryz_u84 : Tryz.prog.underlying 84 = some (.slice 29) := by kernel_rfl
theorem tryz_i29' : (Tryz.prog.info? 29).map (fun i => (i.zero, i.size, i.bytes)) = some (some (.slice none 0 0), 1, 24) := by kernel_rfl
theorem tryz_i29 : ∃ i, Tryz.prog.info? 29 = some i ∧ i.zero = some (.slice none 0 0) ∧ i.size = 1 ∧ i.bytes = 24 := by
  have h := tryz_i29'
  cases hi : Tryz.prog.info? 29 with
  | none => rw [hi] at h; cases h
  | some i =>
    rw [hi] at h
    simp at h
    exact ⟨i, rfl, h.1, h.2.1, h.2.2⟩
theorem Row.one_cell {w : World} {B : Nat} {v : Value} {xs : List UInt8} (h : Row w B v xs) : v.oneCell' = true := by
  rcases h.open with ⟨rfl, _⟩ | ⟨g, cap, rfl, _⟩ <;> rfl
/-- A row of slices of bytes, each as 'I' says. -/
def IRow (w : World) (B : Nat) (I : List UInt8 → Prop) (v : Value) (n : Nat) : Prop :=
  ∃ us : List Value, w.ownsRow B 29 1 v n us ∧ ∀ u ∈ us, ∃ bs, Row w B u bs ∧ I bs ∧ ∀ k, u.ownBlock = some k → v.ownBlock ≠ some k
theorem IRow.nil (w : World) (B : Nat) (I : List UInt8 → Prop) : IRow w B I (.slice none 0 0) 0 := ⟨[], World.ownsRow_nil _ _ _ _, fun u h => by simp at h⟩
theorem IRow.block {w : World} {B n : Nat} {I : List UInt8 → Prop} {v : Value} (h : IRow w B I v n) {k : Nat} (hk : v.ownBlock = some k) : B ≤ k ∧ k < w.heap.size := by
  obtain ⟨us, h, _⟩ := h
  rcases h.2 with ⟨rfl, h2⟩ | ⟨g, cap, cur, rfl, hb, hg, hn, hm, hs, ht⟩
  · exact nomatch hk
  · have := own1 hk
    subst this
    exact ⟨hb, (Array.getElem?_eq_some_iff.1 hg).1⟩
theorem IRow.only {w w' : World} {B n : Nat} {I : List UInt8 → Prop} {v : Value} {S : Nat → Prop} (h : IRow w B I v n) (ho : Only S w w') (hS : ∀ k, B ≤ k → ¬ S k) : IRow w' B I v n := by
  obtain ⟨us, h, hu⟩ := h
  refine ⟨us, ⟨h.1, ?_⟩, fun u hm => ?_⟩
  · rcases h.2 with ⟨h1, h2⟩ | ⟨g, cap, cur, rfl, hb, hg, hn, hm, hs, ht⟩
    · exact Or.inl ⟨h1, h2⟩
    · exact Or.inr ⟨g, cap, cur, rfl, hb, (ho.block g (Array.getElem?_eq_some_iff.1 hg).1 (hS g hb)).trans hg, hn, hm, hs, ht⟩
  · obtain ⟨bs, hr, hi, hk⟩ := hu u hm
    exact ⟨bs, hr.only ho (fun k e => hS k (hr.block e).1), hi, hk⟩
theorem IRow.open {w : World} {B n : Nat} {I : List UInt8 → Prop} {v : Value} (h : IRow w B I v n) : ∃ A cap, v = .slice A n cap ∧ ∀ q, q < n → ∃ g u bs, A = some ⟨g, 0, none⟩ ∧ w.cell? ⟨g, q, none⟩ = some u ∧ Row w B u bs ∧ I bs ∧ B ≤ g := by
  obtain ⟨us, h, hu⟩ := h
  rcases h.2 with ⟨h1, h2⟩ | ⟨g, cap, cur, rfl, hb, hg, hn, hm, hs, ht⟩
  · exact ⟨none, 0, by rw [h1, h2], fun q hq => by omega⟩
  · refine ⟨_, cap, rfl, fun q hq => ?_⟩
    have hl : q < us.length := by have := h.1; omega
    obtain ⟨bs, hr, hi, _⟩ := hu us[q] (List.getElem_mem hl)
    have := World.ownsRow.cells h (g := g) rfl q us[q] (List.getElem?_eq_getElem hl)
    rw [Addr.add_lit, Nat.zero_add] at this
    exact ⟨g, us[q], bs, rfl, this, hr, hi, hb⟩
section
variable {w : World} {ops : Array Oper} {rest : List Oper} {o : Oper} {a : Act} {Q : Exit → Act → World → Prop}
theorem irow_push (hgd : o.guard = none) (s x : Operand) (ho : o.op = .call { callee := .builtin .append, args := #[s, x], argTypes := #[84, 84] }) {w0 : World} {B n : Nat} {I : List UInt8 → Prop}
    (v : Value) (hs : a.eval s = v) (hown : IRow w0 B I v n) (u : Value) {gz : Nat} (hx : a.eval x = .slice (some ⟨gz, 0, none⟩) 1 1) (hgz : w0.heap.size = gz) (hw : w = w0.alloc (.cells #[u] 29))
    (bs : List UInt8) (hr : Row w0 B u bs) (hi : I bs) (hk : ∀ k, u.ownBlock = some k → v.ownBlock ≠ some k) (hbase : B ≤ w0.heap.size) (hbig : n + 1 ≤ 1000000)
    (h : ∀ v' w', IRow w' B I v' (n + 1) → w0.grownBy w' v.ownBlock → (∀ k, v'.ownBlock = some k → v.ownBlock = some k ∨ w0.heap.size ≤ k) → wpList Tryz.prog ops Q rest (a.put o.dst v') w') :
    wpList Tryz.prog ops Q (o :: rest) a w := by
  subst hw hgz
  obtain ⟨i, hi', hz, hz1, hz2⟩ := tryz_i29
  obtain ⟨us, hrow, hus⟩ := hown
  have h0 : Only (fun _ => False) w0 (w0.alloc (.cells #[u] 29)) := by simp
  refine wpList_append_own_at _ hgd s x 84 ho B 29 i _ 1 24 tryz_u84 hi' hz hz1 hz2 rfl (by decide) v n us hs (hrow.alloc _) ⟨w0.heap.size, 0, none⟩ 1 1 [u] hx rfl ?_ ?_ (by unfold maxLen; omega) (by omega) (by simp; omega) ?_
  · intro j x hx
    rw [Addr.add_lit, Nat.zero_add, World.cell?_alloc_mark]
    simpa using hx
  · intro x hx
    simp at hx
    subst hx
    exact hr.one_cell
  · intro v' w' h1 h2 _ h4
    have hg : w0.grownBy w' v.ownBlock := ⟨h2.os, h2.tape, h2.output, by have := h2.size; simp at this; omega, fun k hk hne => by
      rw [h2.block k (by simp; omega) hne]
      exact h0.block k hk (fun h => h)⟩
    refine h v' w' ⟨us ++ [u], h1, fun x hx => ?_⟩ hg (fun k e => by
      rcases h4 with h4 | h4
      · exact Or.inl (h4 ▸ e)
      · rw [h4] at e
        injection e with e
        simp at e
        exact Or.inr (by omega))
    have keep : ∀ {x : Value} {bs : List UInt8}, Row w0 B x bs → (∀ k, x.ownBlock = some k → v.ownBlock ≠ some k) → Row w' B x bs ∧ ∀ k, x.ownBlock = some k → v'.ownBlock ≠ some k := by
      intro x bs hr hne
      refine ⟨hr.only (Only.of_grown hg) hne, fun k hk e => ?_⟩
      rcases h4 with h4 | h4
      · exact hne k hk (h4 ▸ e)
      · rw [h4] at e
        injection e with e
        simp at e
        have := (hr.block hk).2
        omega
    rw [List.mem_append, List.mem_singleton] at hx
    rcases hx with hx | rfl
    · obtain ⟨bs', hr', hi', hk'⟩ := hus x hx
      obtain ⟨k1, k2⟩ := keep hr' hk'
      exact ⟨bs', k1, hi', k2⟩
    · obtain ⟨k1, k2⟩ := keep hr hk
      exact ⟨bs, k1, hi, k2⟩
end
/-- How an integer below 0 is written. -/
def INeg (u : Nat) (bs : List UInt8) : Prop :=
  (18446744073709551584 ≤ u ∧ bs = [UInt8.ofNat u]) ∨ ∃ i s, (i, s) ∈ [(0, 1), (1, 2), (2, 4), (3, 8)] ∧ 18446744073709551616 - 2 ^ (8 * s - 1) ≤ u ∧ bs = UInt8.ofNat (208 + i) :: be s u
/-- .. and one that is not. -/
def IPos (u : Nat) (bs : List UInt8) : Prop :=
  (u < 128 ∧ bs = [UInt8.ofNat u]) ∨ (∃ f ∈ [(204, 1), (205, 2), (206, 4), (207, 8)], holds u f = true ∧ bs = UInt8.ofNat f.1 :: be f.2 u) ∨
    ∃ i s, (i, s) ∈ [(0, 1), (1, 2), (2, 4), (3, 8)] ∧ u < 2 ^ (8 * s - 1) ∧ bs = UInt8.ofNat (208 + i) :: be s u
def IntPost (f : Nat) (I : List UInt8 → Prop) (w : World) (e : Ending) (w' : World) : Prop :=
  ∃ v bs, e = .returned v ∧ Row w' w.heap.size v bs ∧ I bs ∧ Only (fun k => k = f) w w' ∧ FormsAt w' f
end Go.Proofs.YtbgckolcimlofaaGreatDoor
