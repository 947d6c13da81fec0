/-
  A block of the five cells of one value, carried from world to world; no conditions.
  packs counts the values; under the value predicate.
  fewPacks; under the value predicate.
-/
import Derived.Test.YtbgckolcimlofaaGreatDoorT17
import Derived.Test.YtbgckolcimlofaaGreatDoorProg
import Derived.Test.YtbgckolcimlofaaGreatDoorT01
import Derived.Deep.QuietTactic
import Derived.BigQuiet
import Derived.Deep.LoopGhost
import Derived.Handy
import Derived.Deep.DeepCutAuto
set_option linter.unusedVariables false
set_option linter.unusedSimpArgs false
namespace Go.Proofs.YtbgckolcimlofaaGreatDoor
open Go.RowKit YtbgckolcimlofaaGreatDoorPj
/-- Five cells that may be written. -/
structure Five (w : World) (b : Nat) (v0 v1 v2 v3 v4 : Value) : Prop where
  c0 : w.cell? ⟨b, 0, none⟩ = some v0
  c1 : w.cell? ⟨b, 1, none⟩ = some v1
  c2 : w.cell? ⟨b, 2, none⟩ = some v2
  c3 : w.cell? ⟨b, 3, none⟩ = some v3
  c4 : w.cell? ⟨b, 4, none⟩ = some v4
  f0 : w.frozen? ⟨b, 0, none⟩ = false
  f1 : w.frozen? ⟨b, 1, none⟩ = false
  f2 : w.frozen? ⟨b, 2, none⟩ = false
  f3 : w.frozen? ⟨b, 3, none⟩ = false
  f4 : w.frozen? ⟨b, 4, none⟩ = false
theorem Five.lt {w : World} {b : Nat} {v0 v1 v2 v3 v4 : Value} (h : Five w b v0 v1 v2 v3 v4) : b < w.heap.size := World.block_lt_of_cell? w _ h.c0
theorem Five.only {w w' : World} {b : Nat} {v0 v1 v2 v3 v4 : Value} {S : Nat → Prop} (h : Five w b v0 v1 v2 v3 v4) (ho : Only S w w') (hS : ¬ S b) : Five w' b v0 v1 v2 v3 v4 :=
  ⟨(ho.cell h.lt hS).trans h.c0, (ho.cell h.lt hS).trans h.c1, (ho.cell h.lt hS).trans h.c2, (ho.cell h.lt hS).trans h.c3, (ho.cell h.lt hS).trans h.c4,
    (ho.frozen h.lt hS).trans h.f0, (ho.frozen h.lt hS).trans h.f1, (ho.frozen h.lt hS).trans h.f2, (ho.frozen h.lt hS).trans h.f3, (ho.frozen h.lt hS).trans h.f4⟩
theorem Five.new (w : World) (v0 v1 v2 v3 v4 : Value) (t : TypeId) : Five (w.alloc (.cells #[v0, v1, v2, v3, v4] t)) w.heap.size v0 v1 v2 v3 v4 := by
  constructor <;> go_simp
theorem Five.set4 {w : World} {b : Nat} {v0 v1 v2 v3 v4 : Value} (h : Five w b v0 v1 v2 v3 v4) (v : Value) : Five (w.setCell ⟨b, 4, none⟩ v) b v0 v1 v2 v3 v := by
  obtain ⟨c0, c1, c2, c3, c4, f0, f1, f2, f3, f4⟩ := h
  constructor <;> go_simp
theorem Five.sets {w : World} {b : Nat} {v0 v1 v2 v3 v4 : Value} (h : Five w b v0 v1 v2 v3 v4) (x0 x1 x2 x3 x4 : Value) :
    Five (((((w.setCell ⟨b, 0, none⟩ x0).setCell ⟨b, 1, none⟩ x1).setCell ⟨b, 2, none⟩ x2).setCell ⟨b, 3, none⟩ x3).setCell ⟨b, 4, none⟩ x4) b x0 x1 x2 x3 x4 := by
  obtain ⟨c0, c1, c2, c3, c4, f0, f1, f2, f3, f4⟩ := h
  constructor <;> go_simp
/-- Results of which the first lies in a cell. -/
theorem res_cell5 {fn : Func} {t u : Tmp} {tmps : Array Value} {w : World} {H : Nat} {x0 x1 x2 x3 x4 r : Value} (hr : fn.results = #[.cell t 25, .tmp u]) (h2 : tmps.getD t undef = .pointer (some ⟨H, 0, none⟩)) (h3 : tmps.getD u undef = r)
    (h : Five w H x0 x1 x2 x3 x4) : (results fn tmps).run Tryz.prog w = .ok (.tuple #[.agg #[x0, x1, x2, x3, x4], r]) w := by
  obtain ⟨c0, c1, c2, c3, c4, f0, f1, f2, f3, f4⟩ := h
  simp at h2 h3
  simp [results, hr, go_sem, h2, h3, c0, c1, c2, c3, c4]
end Go.Proofs.YtbgckolcimlofaaGreatDoor
namespace Go.Proofs.YtbgckolcimlofaaGreatDoor
open Go.RowKit YtbgckolcimlofaaGreatDoorPj

set_option maxHeartbeats 400000 in
theorem packs (p : P) : ∀ (cs : List Value) (B : Nat) (w : World) (_ : IsPack w B p cs) (_ : B ≤ w.heap.size) (_ : cnt p ≤ 1000000),
    Calls Tryz.prog 7 #[.agg cs.toArray] w fun e w' => e = .returned (.int .i64 (cnt p)) ∧ Only (fun _ => False) w w' := by
  induction p using P.ind with | h p ih => ?_
  intro cs B w h hB hc
  have IH := hid ih
  clear ih
  obtain ⟨A, cap, rfl, hlen, hk⟩ := h.open
  have HK := hid hk
  clear hk h
  have hc' := cnt_eq p
  go_enter Tryz.func7, Tryz.ntmps7
  go_wp2
  go_loopg [3, 9] p.kids.length (fun n v3 v9 wr => ∃ j, j + n = p.kids.length ∧ v9 = .int .i64 (j : Nat) ∧ v3 = .int .i64 (1 + cntAll (p.kids.take j) : Nat) ∧ Only (fun _ => False) w wr)
  case atStart => exact ⟨0, by omega, rfl, by simp [cntAll], (Only.refl _ _).alloc _⟩
  case round =>
    obtain ⟨j, hj, rfl, rfl, ho⟩ := hrel
    have hle := cntAll_take_le p.kids j
    by_cases hlt : j < p.kids.length
    · obtain ⟨b, off, A', cap', rfl, hb, c0, c1, c2, c3, c4, hp⟩ := HK.out j hlt
      have hs := ho.size
      have d0 := (ho.cell (o := off + j * 5) (Nat.lt_of_lt_of_le hb hB) (fun h => h)).trans c0
      have d1 := (ho.cell (o := off + j * 5 + 1) (Nat.lt_of_lt_of_le hb hB) (fun h => h)).trans c1
      have d2 := (ho.cell (o := off + j * 5 + 2) (Nat.lt_of_lt_of_le hb hB) (fun h => h)).trans c2
      have d3 := (ho.cell (o := off + j * 5 + 3) (Nat.lt_of_lt_of_le hb hB) (fun h => h)).trans c3
      have d4 := (ho.cell (o := off + j * 5 + 4) (Nat.lt_of_lt_of_le hb hB) (fun h => h)).trans c4
      clear c0 c1 c2 c3 c4
      have hcj := cntAll_take p.kids j hlt
      have hle2 := cntAll_take_le p.kids (j + 1)
      have HX : Hid (cntAll (p.kids.take (j + 1)) = cntAll (p.kids.take j) + cnt p.kids[j]) := hcj
      have hcb : cnt p.kids[j] ≤ 1000000 := by omega
      clear hcj
      go_wp2_with (go_at_call 7; refine (IH.out j hlt _ B _ ((hp.only ho hB (fun _ _ h => h)).only ((Only.refl _ _).alloc _) (by omega) (fun _ _ h => h)) (by simp; omega) hcb).mono ?_; rintro e w1 ⟨rfl, h1⟩)
      go_roundg (gk - 1)
      case measure => omega
      case rel => exact ⟨j + 1, by omega, by go_num, by rw [HX.out]; go_num, (ho.alloc _).trans h1⟩
    · go_wp2
      go_ret
      refine ⟨ret_int ?_, ho⟩
      rw [hc', List.take_of_length_le (by omega)]
      omega
end Go.Proofs.YtbgckolcimlofaaGreatDoor
namespace Go.Proofs.YtbgckolcimlofaaGreatDoor
open Go.RowKit YtbgckolcimlofaaGreatDoorPj

/-- What 'fewPacks' leaves. -/
def FewPost (p : P) (bl : Nat) (n : Int) (w : World) (e : Ending) (w' : World) : Prop :=
  ∃ b n', e = .returned (.bool b) ∧ Only (fun k => k = bl) w w' ∧ w'.cell? ⟨bl, 0, none⟩ = some (.int .i64 n') ∧ w'.frozen? ⟨bl, 0, none⟩ = false ∧ (b = true → n' = n - cnt p ∧ 0 ≤ n')

set_option maxHeartbeats 400000 in
theorem fewPacks (p : P) : ∀ (cs : List Value) (B : Nat) (w : World) (bl : Nat) (n : Int) (_ : IsPack w B p cs) (_ : B ≤ bl) (_ : bl < w.heap.size)
    (_ : w.cell? ⟨bl, 0, none⟩ = some (.int .i64 n)) (_ : w.frozen? ⟨bl, 0, none⟩ = false) (_ : 0 ≤ n) (_ : n ≤ 2000),
    Calls Tryz.prog 15 #[.agg cs.toArray, .pointer (some ⟨bl, 0, none⟩)] w (FewPost p bl n w) := by
  induction p using P.ind with | h p ih => ?_
  intro cs B w bl n h hB hbl hc hf hn0 hn
  have IH := hid ih
  clear ih
  obtain ⟨A, cap, rfl, hlen, hk⟩ := h.open
  have HK := hid hk
  clear hk h
  have hcnt := hid (cnt_eq p)
  by_cases hz : n - 1 < 0
  · go_enter Tryz.func15, Tryz.ntmps15
    go_wp2
    go_ret
    exact ⟨false, n - 1, rfl, by simp, by go_simp, by go_simp, by simp⟩
  · go_enter Tryz.func15, Tryz.ntmps15
    go_wp2
    go_loopg [5] p.kids.length (fun m v5 wr => ∃ (j : Nat) (n' : Int), j + m = p.kids.length ∧ v5 = .int .i64 (j : Nat) ∧ Only (fun k => k = bl) w wr ∧ wr.cell? ⟨bl, 0, none⟩ = some (.int .i64 n') ∧ wr.frozen? ⟨bl, 0, none⟩ = false ∧ n' = n - 1 - cntAll (p.kids.take j) ∧ 0 ≤ n' ∧
      wr.cell? ⟨w.heap.size, 4, none⟩ = some (.slice A p.kids.length cap))
    case atStart =>
      exact ⟨0, n - 1, by omega, rfl, by simp, by go_simp, by go_simp, by simp [cntAll], by omega, by go_simp⟩
    case round =>
      obtain ⟨j, n', hj, rfl, ho, hc', hf', hn', hn0', hbox⟩ := hrel
      have hle := cntAll_take_le p.kids j
      have HN := hid hn'
      clear hn'
      have hw : w.heap.size < wr.heap.size := World.block_lt_of_cell? wr _ hbox
      by_cases hlt : j < p.kids.length
      · obtain ⟨b, off, A', cap', rfl, hb, c0, c1, c2, c3, c4, hp⟩ := HK.out j hlt
        have hs := ho.size
        have hne : ∀ k, k < B → ¬ k = bl := fun k hk => by omega
        have hbw : b < w.heap.size := by omega
        have d0 := (ho.cell (o := off + j * 5) hbw (hne b hb)).trans c0
        have d1 := (ho.cell (o := off + j * 5 + 1) hbw (hne b hb)).trans c1
        have d2 := (ho.cell (o := off + j * 5 + 2) hbw (hne b hb)).trans c2
        have d3 := (ho.cell (o := off + j * 5 + 3) hbw (hne b hb)).trans c3
        have d4 := (ho.cell (o := off + j * 5 + 4) hbw (hne b hb)).trans c4
        have hp' := hid (hp.only ho (by omega) hne)
        have HX := hid (cntAll_take p.kids j hlt)
        have HNE := hid hne
        have HO := hid ho
        clear c0 c1 c2 c3 c4 hne hp ho
        have hn2 : n' ≤ 2000 := by have := HN.out; omega
        go_wp2_with (go_at_call 15; refine (IH.out j hlt _ B _ bl n' hp'.out hB (by omega) hc' hf' hn0' hn2).mono ?_; rintro e w1 ⟨b', n2, rfl, h1, hc2, hf2, h2⟩; have H1 := hid h1; have H2 := hid h2; clear h1 h2; cases b')
        · go_ret
          exact ⟨false, n2, rfl, HO.out.trans H1.out, hc2, hf2, by simp⟩
        · go_roundg (gk - 1)
          case measure => omega
          case rel =>
            obtain ⟨e2, e3⟩ := H2.out (by trivial)
            refine ⟨j + 1, n2, by omega, by go_num, HO.out.trans H1.out, hc2, hf2, ?_, e3, ?_⟩
            · have := HN.out; have := HX.out; omega
            · rw [(H1.out).cell hw (by omega)]; exact hbox
      · go_wp2
        go_ret
        refine ⟨true, n', rfl, ho, hc', hf', fun _ => ⟨?_, hn0'⟩⟩
        have e1 := HN.out
        rw [List.take_of_length_le (by omega)] at e1
        have := hcnt.out
        omega
end Go.Proofs.YtbgckolcimlofaaGreatDoor
