/-
  The parser: the loop over a quoted text; where the tables of utf8 are laid.
-/
import Derived.Test.YtbgckolcimlofaaGreatDoorProg
import Derived.Test.YtbgckolcimlofaaGreatDoorT42
import Derived.Test.YtbgckolcimlofaaGreatDoorT18
set_option linter.unusedVariables false
set_option linter.unusedSimpArgs false
namespace Go.Proofs.YtbgckolcimlofaaGreatDoor
open Go.RowKit YtbgckolcimlofaaGreatDoorPj

theorem IsPk.leaf (w : World) (ok : Nat → Prop) (k n : Int) (t : ByteArray) (hn0 : 0 ≤ n) (hn : n < 18446744073709551616) (ht : t.size ≤ 9223372036854775807) :
    IsPk w ok (.mk k n t 0 []) [.int .i64 k, .int .u64 n, .string t, .int .i64 0, .slice none 0 0] :=
  .mk k n t 0 [] none 0 (fun _ => []) (by simp) hn0 hn ht (fun j hj => absurd hj (by simp)) (fun h => absurd h (by simp))
/-- What reading a value leaves. -/
def PackPost (q : P) (w : World) (j : Nat) (s : ByteArray) (n : Nat) (e : Ending) (w' : World) : Prop := ∃ x0 x1 x2 x3 x4, e = .returned (.agg #[x0, x1, x2, x3, x4]) ∧ IsPk w' (fun k => w.heap.size ≤ k) q [x0, x1, x2, x3, x4] ∧ Moved w j s n w'
/-- A result that lies in a cell. -/
theorem res_cell1 {fn : Func} {t : Tmp} {tmps : Array Value} {w : World} {H : Nat} {x0 x1 x2 x3 x4 : Value} (hr : fn.results = #[.cell t 25]) (h2 : tmps.getD t undef = .pointer (some ⟨H, 0, none⟩))
    (h : Five w H x0 x1 x2 x3 x4) : (results fn tmps).run Tryz.prog w = .ok (.agg #[x0, x1, x2, x3, x4]) w := by
  obtain ⟨c0, c1, c2, c3, c4⟩ := h
  simp at h2
  simp [results, hr, go_sem, h2, c0, c1, c2, c3, c4]
theorem Jt.ne_new {w w1 : World} {j : Nat} {s : ByteArray} {n : Nat} (h : Jt w j s n) (o : Obj) : Jt (w.alloc o) j s n := h.only (Only.alloc (Only.refl (fun _ => False) _) o) (fun h => h)
/-- No digit comes first. -/
def NoDig (r : List UInt8) : Prop := ∀ b r', r = b :: r' → b.toNat < 48 ∨ 57 < b.toNat
def Z5 : Obj := .cells #[.int .i64 0, .int .u64 0, .string ⟨#[]⟩, .int .i64 0, .slice none 0 0] 25
theorem only_sets5 {S : Nat → Prop} {w w1 : World} (h : Only S w w1) (x0 x1 x2 x3 x4 : Value) : Only S w (((((w1.setCell ⟨w.heap.size, 0, none⟩ x0).setCell ⟨w.heap.size, 1, none⟩ x1).setCell ⟨w.heap.size, 2, none⟩ x2).setCell ⟨w.heap.size, 3, none⟩ x3).setCell ⟨w.heap.size, 4, none⟩ x4) :=
  ((((h.setCell (p := ⟨w.heap.size, 0, none⟩) (fun e => absurd e (by simp)) _).setCell (p := ⟨w.heap.size, 1, none⟩) (fun e => absurd e (by simp)) _).setCell (p := ⟨w.heap.size, 2, none⟩) (fun e => absurd e (by simp)) _).setCell (p := ⟨w.heap.size, 3, none⟩) (fun e => absurd e (by simp)) _).setCell (p := ⟨w.heap.size, 4, none⟩) (fun e => absurd e (by simp)) _
theorem only_sets5' (w1 : World) (H : Nat) (x0 x1 x2 x3 x4 : Value) : Only (fun k => k = H) w1 (((((w1.setCell ⟨H, 0, none⟩ x0).setCell ⟨H, 1, none⟩ x1).setCell ⟨H, 2, none⟩ x2).setCell ⟨H, 3, none⟩ x3).setCell ⟨H, 4, none⟩ x4) :=
  (((((Only.refl (fun k => k = H) w1).setCell (p := ⟨H, 0, none⟩) (fun _ => rfl) _).setCell (p := ⟨H, 1, none⟩) (fun _ => rfl) _).setCell (p := ⟨H, 2, none⟩) (fun _ => rfl) _).setCell (p := ⟨H, 3, none⟩) (fun _ => rfl) _).setCell (p := ⟨H, 4, none⟩) (fun _ => rfl) _
theorem Ahead.mid {s : ByteArray} {fr : Nat} {ds post : List UInt8} (h : Ahead s fr (ds ++ post)) (k : Nat) (hk : k ≤ ds.length) : Ahead s (fr + k) (ds.drop k ++ post) := by
  have e : ds ++ post = ds.take k ++ (ds.drop k ++ post) := by rw [← List.append_assoc, List.take_append_drop]
  rw [e] at h
  have := Ahead.app _ h
  rwa [List.length_take, Nat.min_eq_left hk] at this
set_option maxRecDepth 100000 in
set_option maxHeartbeats 16000000 in
theorem number_w (minus : Bool) (w : World) (j : Nat) (s : ByteArray) (at_ : Nat) (h : Jt w j s at_) (ds post : List UInt8) (m fr : Nat) (hw : ∀ w1, Jt w1 j s at_ → Calls Tryz.prog 35 #[.pointer (some ⟨j, 0, none⟩), .string ⟨#[45]⟩] w1 (EatPost minus w1 j s fr)) (hf : Ahead s fr (ds ++ post))
    (hm : m < 18446744073709551616) (hm9 : minus = true → m ≤ 9223372036854775808) (hm1 : minus = true → 0 < m) (hL : 0 < ds.length) (hlead : 1 < ds.length → ∃ b r, ds = b :: r ∧ b.toNat ≠ 48) (hdig : dig ds = m) (hall : ∀ b ∈ ds, IsDig b) (hp : NoDig post) :
    Calls Tryz.prog 38 #[.pointer (some ⟨j, 0, none⟩)] w (PackPost (.mk (if minus then 2 else 3) (if minus then 18446744073709551616 - m else m) ⟨#[]⟩ 0 []) w j s (fr + ds.length)) := by
  have HJ := hid h
  have HW := hid hw
  have hjl := h.lt
  have hbig := h.big
  have HA : Hid (∀ k, k ≤ ds.length → Ahead s (fr + k) (ds.drop k ++ post)) := hid fun k hk => hf.mid k hk
  have hfit : fr + ds.length ≤ s.size := (hf.mid ds.length (Nat.le_refl _)).2
  have HD : Hid (∀ k (hk : k < ds.length), 48 ≤ ds[k].toNat ∧ ds[k].toNat ≤ 57 ∧ 10 * dig (ds.take k) + (ds[k].toNat - 48) = dig (ds.take (k + 1)) ∧ dig (ds.take (k + 1)) < 18446744073709551616) := hid fun k hk => by
    have h1 := hall ds[k] (List.getElem_mem hk)
    have h2 := dig_next ds k hk
    have h3 := dig_le ds (k + 1)
    exact ⟨h1.1, h1.2, h2.symm, by omega⟩
  have HF : Hid (dig (ds.take ds.length) = m) := hid (by rw [List.take_length]; exact hdig)
  have HLD := hid hlead
  have HP := hid hp
  have HALL := hid hall
  generalize hLe : ds.length = L at hL hfit HF
  have HLE := hid hLe
  have H5 : Hid (Five (w.alloc Z5) w.heap.size (.int .i64 0) (.int .u64 0) (.string ⟨#[]⟩) (.int .i64 0) (.slice none 0 0)) := hid (Five.new _ _ _ _ _ _ _)
  have hj0 : j ≠ w.heap.size := by omega
  clear h hw hf hdig hall hlead hp hLe
  have HM1 := hid hm1
  have HM9 := hid hm9
  clear hm1 hm9
  cases minus
  · go_enter Tryz.func38, Tryz.ntmps38
    go_wp2_with (go_at_call 35; refine (HW.out _ (HJ.out.ne_new (w1 := w) Z5)).mono ?_; rintro e w1 ⟨rfl, h1⟩; have H1 := hid h1; have k1 := h1.2.c1; clear h1)
    have H0 : Hid (Only (fun k => k = j) w w1 ∧ Jt w1 j s fr ∧ Five w1 w.heap.size (.int .i64 0) (.int .u64 0) (.string ⟨#[]⟩) (.int .i64 0) (.slice none 0 0)) := hid ⟨(Only.alloc (Only.refl _ _) Z5).trans H1.out.1, H1.out.2, H5.out.only H1.out.1 (fun e => hj0 e.symm)⟩
    clear H1 H5 k1
    go_loopg [5, 6] L (fun gm v5 v6 wr => ∃ k : Nat, k + gm = L ∧ v5 = .int .u64 (dig (ds.take k) : Nat) ∧ Hid (Only (fun k => k = j) w wr ∧ Jt wr j s (fr + k) ∧ Five wr w.heap.size (.int .i64 0) (.int .u64 0) (.string ⟨#[]⟩) (.int .i64 0) (.slice none 0 0)))
    case atStart => exact ⟨0, by omega, rfl, H0⟩
    case round =>
      clear H0
      obtain ⟨k, hk, rfl, HM⟩ := hrel
      obtain ⟨c0, c1, c2, f1, le, big⟩ := HM.out.2.1
      by_cases hlt : k < L
      · have hl1 : fr + k < s.size := by omega
        obtain ⟨hd0, hd1, hd2, hd3⟩ := HD.out k (by rw [HLE.out]; exact hlt)
        have hsb : s[fr + k]'hl1 = ds[k]'(by rw [HLE.out]; exact hlt) := by
          have h1 := HA.out k (by rw [HLE.out]; omega)
          rw [List.drop_eq_getElem_cons (by rw [HLE.out]; exact hlt), List.cons_append] at h1
          exact h1.cons.2.1
        generalize (ds[k]'(by rw [HLE.out]; exact hlt)) = b at hd0 hd1 hd2 hsb
        have hx : (((s[fr + k]'hl1).toNat : Nat) : Int) = (b.toNat : Int) := by rw [hsb]
        have d1 : decide ((fr : Int) + k < s.size) = true := by simp; omega
        have d2 : (fr : Int) + k < s.size := by omega
        have d3 : (0 : Int) ≤ (fr : Int) + k := by omega
        have e1 : decide ((48 : Int) ≤ (b.toNat : Int)) = true := by simp; omega
        have e2 : decide ((b.toNat : Int) ≤ 57) = true := by simp; omega
        have hw8 : IntKind.u8.wrap ((b.toNat : Int) - 48) = (b.toNat : Int) - 48 := IntWalk.u8_in _ (by omega)
        have HMV : Hid (∀ nq {z : Int}, z = (fr : Int) + k + 1 → Moved wr j s (fr + (k + 1)) ((wr.drewN nq).setCell ⟨j, 1, none⟩ (.int .i64 z))) := hid fun nq z hz => Moved.set HM.out.2.1 (Only.drewN (Only.refl _ _) nq) _ (by omega) (by omega)
        clear hsb
        go_wp2
        go_quiet (fail)
        go_wp2
        go_quiet (fail)
        go_wp2
        go_roundg (gk - 1)
        case measure => omega
        case rel =>
          refine ⟨k + 1, by omega, ?_, hid ?_⟩
          · exact congrArg (Value.int .u64) (by omega)
          · obtain ⟨h1, h2, h3⟩ := HM.out
            exact ⟨h1.trans (HMV.out _ rfl).1, (HMV.out _ rfl).2, h3.only (HMV.out _ rfl).1 (fun e => hj0 e.symm)⟩
      · obtain rfl : k = L := by omega
        have HAE : Hid (Ahead s (fr + k) post) := hid (by have h1 := HA.out k (by rw [HLE.out]; exact Nat.le_refl _); rw [List.drop_eq_nil_of_le (by rw [HLE.out]; exact Nat.le_refl _)] at h1; exact h1)
        have f1' : ((fr : Int) + k == fr) = false := by simp; omega
        have f2' : IntKind.i64.wrap ((fr : Int) + k - fr) = k := by rw [show (fr : Int) + k - fr = k by omega]; exact IntWalk.i64_in _ (by omega)
        have hfl : fr < s.size := by omega
        have d2' : (fr : Int) < s.size := by omega
        have d3' : (0 : Int) ≤ fr := by omega
        have HFR : Hid (∀ b r, ds = b :: r → s[fr]'hfl = b) := hid fun b r e => by
          have h1 := HA.out 0 (by omega)
          rw [List.drop_zero, e, List.cons_append] at h1
          exact h1.cons.2.1
        have HDM := HF
        have hdm := HF.out
        rw [hdm]
        clear hdm
        have hne : ∀ b : UInt8, b.toNat ≠ 48 → ((b.toNat : Int) == 48) = false := fun b hb => by simp; omega
        obtain ⟨x0, hx0, hx1⟩ : ∃ x0 : Int, (((s[fr]'hfl).toNat : Nat) : Int) = x0 ∧ (1 < k → (x0 == 48) = false) := ⟨_, rfl, fun h1 => by
          obtain ⟨b, r, e, hb⟩ := HLD.out (by rw [HLE.out]; exact h1)
          rw [HFR.out b r e]
          exact hne b hb⟩
        clear hne
        have HM2 := hid hx1
        clear hx1
        have HS5 : Hid (∀ nq (x0 x1 x2 x3 x4 : Value), Five (((((((wr.drewN nq).setCell ⟨w.heap.size, 0, none⟩ x0).setCell ⟨w.heap.size, 1, none⟩ x1).setCell ⟨w.heap.size, 2, none⟩ x2).setCell ⟨w.heap.size, 3, none⟩ x3).setCell ⟨w.heap.size, 4, none⟩ x4)) w.heap.size x0 x1 x2 x3 x4 ∧
            Moved w j s (fr + k) (((((((wr.drewN nq).setCell ⟨w.heap.size, 0, none⟩ x0).setCell ⟨w.heap.size, 1, none⟩ x1).setCell ⟨w.heap.size, 2, none⟩ x2).setCell ⟨w.heap.size, 3, none⟩ x3).setCell ⟨w.heap.size, 4, none⟩ x4))) := hid fun nq x0 x1 x2 x3 x4 => by
          obtain ⟨h1, h2, h3⟩ := HM.out
          have hd : Only (fun _ => False) wr (wr.drewN nq) := Only.drewN (Only.refl _ _) nq
          exact ⟨(h3.only hd (fun h => h)).sets _ _ _ _ _, only_sets5 (h1.trans (hd.mono fun _ _ h => h.elim)) _ _ _ _ _, (h2.only hd (fun h => h)).only (only_sets5' _ _ _ _ _ _ _) (fun e => hj0 e)⟩
        obtain ⟨g0, g1, g2, g3, g4, p0, p1, p2, p3, p4⟩ := HM.out.2.2
        rcases hpost : post with _ | ⟨pb, pr⟩
        · have HE : Hid (fr + k = s.size) := hid (by have := HAE.out; rw [hpost] at this; exact this.nil)
          have d1e : decide ((fr : Int) + k < s.size) = false := by have := HE.out; simp; omega
          clear hpost
          by_cases hk1 : 1 < k
          · have hx48 := HM2.out hk1
            have dk1 : decide ((1 : Int) < k) = true := by simp; omega
            go_wp2
            go_quiet (fail)
            go_wp2
            refine bodyPost_ret (res_cell1 rfl rfl (HS5.out _ _ _ _ _ _).1) rfl ?_
            try simp only [Bool.false_eq_true, if_false]
            exact ⟨_, _, _, _, _, rfl, IsPk.leaf _ _ _ _ _ (by omega) (by omega) (by decide), (HS5.out _ _ _ _ _ _).2⟩
          · have dk1 : decide ((1 : Int) < k) = false := by simp; omega
            go_wp2
            go_quiet (fail)
            go_wp2
            refine bodyPost_ret (res_cell1 rfl rfl (HS5.out _ _ _ _ _ _).1) rfl ?_
            try simp only [Bool.false_eq_true, if_false]
            exact ⟨_, _, _, _, _, rfl, IsPk.leaf _ _ _ _ _ (by omega) (by omega) (by decide), (HS5.out _ _ _ _ _ _).2⟩
        · obtain ⟨hl1, hsb, -⟩ : ∃ hl : fr + k < s.size, s[fr + k] = pb ∧ True := by
            have := HAE.out
            rw [hpost] at this
            exact ⟨this.cons.1, this.cons.2.1, trivial⟩
          have hnd := HP.out pb pr hpost
          have hx : (((s[fr + k]'hl1).toNat : Nat) : Int) = (pb.toNat : Int) := by rw [hsb]
          have d1 : decide ((fr : Int) + k < s.size) = true := by simp; omega
          have d2 : (fr : Int) + k < s.size := by omega
          have d3 : (0 : Int) ≤ (fr : Int) + k := by omega
          clear hpost hsb
          by_cases h48 : pb.toNat < 48
          · have e1 : decide ((48 : Int) ≤ (pb.toNat : Int)) = false := by simp; omega
            by_cases hk1 : 1 < k
            · have hx48 := HM2.out hk1
              have dk1 : decide ((1 : Int) < k) = true := by simp; omega
              go_wp2
              go_quiet (fail)
              go_wp2
              refine bodyPost_ret (res_cell1 rfl rfl (HS5.out _ _ _ _ _ _).1) rfl ?_
              try simp only [Bool.false_eq_true, if_false]
              exact ⟨_, _, _, _, _, rfl, IsPk.leaf _ _ _ _ _ (by omega) (by omega) (by decide), (HS5.out _ _ _ _ _ _).2⟩
            · have dk1 : decide ((1 : Int) < k) = false := by simp; omega
              go_wp2
              go_quiet (fail)
              go_wp2
              refine bodyPost_ret (res_cell1 rfl rfl (HS5.out _ _ _ _ _ _).1) rfl ?_
              try simp only [Bool.false_eq_true, if_false]
              exact ⟨_, _, _, _, _, rfl, IsPk.leaf _ _ _ _ _ (by omega) (by omega) (by decide), (HS5.out _ _ _ _ _ _).2⟩
          · have e1 : decide ((48 : Int) ≤ (pb.toNat : Int)) = true := by simp; omega
            have e2 : decide ((pb.toNat : Int) ≤ 57) = false := by simp; omega
            by_cases hk1 : 1 < k
            · have hx48 := HM2.out hk1
              have dk1 : decide ((1 : Int) < k) = true := by simp; omega
              go_wp2
              go_quiet (fail)
              go_wp2
              refine bodyPost_ret (res_cell1 rfl rfl (HS5.out _ _ _ _ _ _).1) rfl ?_
              try simp only [Bool.false_eq_true, if_false]
              exact ⟨_, _, _, _, _, rfl, IsPk.leaf _ _ _ _ _ (by omega) (by omega) (by decide), (HS5.out _ _ _ _ _ _).2⟩
            · have dk1 : decide ((1 : Int) < k) = false := by simp; omega
              go_wp2
              go_quiet (fail)
              go_wp2
              refine bodyPost_ret (res_cell1 rfl rfl (HS5.out _ _ _ _ _ _).1) rfl ?_
              try simp only [Bool.false_eq_true, if_false]
              exact ⟨_, _, _, _, _, rfl, IsPk.leaf _ _ _ _ _ (by omega) (by omega) (by decide), (HS5.out _ _ _ _ _ _).2⟩
  · go_enter Tryz.func38, Tryz.ntmps38
    go_wp2_with (go_at_call 35; refine (HW.out _ (HJ.out.ne_new (w1 := w) Z5)).mono ?_; rintro e w1 ⟨rfl, h1⟩; have H1 := hid h1; have k1 := h1.2.c1; clear h1)
    have H0 : Hid (Only (fun k => k = j) w w1 ∧ Jt w1 j s fr ∧ Five w1 w.heap.size (.int .i64 0) (.int .u64 0) (.string ⟨#[]⟩) (.int .i64 0) (.slice none 0 0)) := hid ⟨(Only.alloc (Only.refl _ _) Z5).trans H1.out.1, H1.out.2, H5.out.only H1.out.1 (fun e => hj0 e.symm)⟩
    clear H1 H5 k1
    go_loopg [5, 6] L (fun gm v5 v6 wr => ∃ k : Nat, k + gm = L ∧ v5 = .int .u64 (dig (ds.take k) : Nat) ∧ Hid (Only (fun k => k = j) w wr ∧ Jt wr j s (fr + k) ∧ Five wr w.heap.size (.int .i64 0) (.int .u64 0) (.string ⟨#[]⟩) (.int .i64 0) (.slice none 0 0)))
    case atStart => exact ⟨0, by omega, rfl, H0⟩
    case round =>
      clear H0
      obtain ⟨k, hk, rfl, HM⟩ := hrel
      obtain ⟨c0, c1, c2, f1, le, big⟩ := HM.out.2.1
      by_cases hlt : k < L
      · have hl1 : fr + k < s.size := by omega
        obtain ⟨hd0, hd1, hd2, hd3⟩ := HD.out k (by rw [HLE.out]; exact hlt)
        have hsb : s[fr + k]'hl1 = ds[k]'(by rw [HLE.out]; exact hlt) := by
          have h1 := HA.out k (by rw [HLE.out]; omega)
          rw [List.drop_eq_getElem_cons (by rw [HLE.out]; exact hlt), List.cons_append] at h1
          exact h1.cons.2.1
        generalize (ds[k]'(by rw [HLE.out]; exact hlt)) = b at hd0 hd1 hd2 hsb
        have hx : (((s[fr + k]'hl1).toNat : Nat) : Int) = (b.toNat : Int) := by rw [hsb]
        have d1 : decide ((fr : Int) + k < s.size) = true := by simp; omega
        have d2 : (fr : Int) + k < s.size := by omega
        have d3 : (0 : Int) ≤ (fr : Int) + k := by omega
        have e1 : decide ((48 : Int) ≤ (b.toNat : Int)) = true := by simp; omega
        have e2 : decide ((b.toNat : Int) ≤ 57) = true := by simp; omega
        have hw8 : IntKind.u8.wrap ((b.toNat : Int) - 48) = (b.toNat : Int) - 48 := IntWalk.u8_in _ (by omega)
        have HMV : Hid (∀ nq {z : Int}, z = (fr : Int) + k + 1 → Moved wr j s (fr + (k + 1)) ((wr.drewN nq).setCell ⟨j, 1, none⟩ (.int .i64 z))) := hid fun nq z hz => Moved.set HM.out.2.1 (Only.drewN (Only.refl _ _) nq) _ (by omega) (by omega)
        clear hsb
        go_wp2
        go_quiet (fail)
        go_wp2
        go_quiet (fail)
        go_wp2
        go_roundg (gk - 1)
        case measure => omega
        case rel =>
          refine ⟨k + 1, by omega, ?_, hid ?_⟩
          · exact congrArg (Value.int .u64) (by omega)
          · obtain ⟨h1, h2, h3⟩ := HM.out
            exact ⟨h1.trans (HMV.out _ rfl).1, (HMV.out _ rfl).2, h3.only (HMV.out _ rfl).1 (fun e => hj0 e.symm)⟩
      · obtain rfl : k = L := by omega
        have HAE : Hid (Ahead s (fr + k) post) := hid (by have h1 := HA.out k (by rw [HLE.out]; exact Nat.le_refl _); rw [List.drop_eq_nil_of_le (by rw [HLE.out]; exact Nat.le_refl _)] at h1; exact h1)
        have f1' : ((fr : Int) + k == fr) = false := by simp; omega
        have f2' : IntKind.i64.wrap ((fr : Int) + k - fr) = k := by rw [show (fr : Int) + k - fr = k by omega]; exact IntWalk.i64_in _ (by omega)
        have hfl : fr < s.size := by omega
        have d2' : (fr : Int) < s.size := by omega
        have d3' : (0 : Int) ≤ fr := by omega
        have HFR : Hid (∀ b r, ds = b :: r → s[fr]'hfl = b) := hid fun b r e => by
          have h1 := HA.out 0 (by omega)
          rw [List.drop_zero, e, List.cons_append] at h1
          exact h1.cons.2.1
        have HDM := HF
        have hdm := HF.out
        rw [hdm]
        clear hdm
        have hne : ∀ b : UInt8, b.toNat ≠ 48 → ((b.toNat : Int) == 48) = false := fun b hb => by simp; omega
        obtain ⟨x0, hx0, hx1⟩ : ∃ x0 : Int, (((s[fr]'hfl).toNat : Nat) : Int) = x0 ∧ (1 < k → (x0 == 48) = false) := ⟨_, rfl, fun h1 => by
          obtain ⟨b, r, e, hb⟩ := HLD.out (by rw [HLE.out]; exact h1)
          rw [HFR.out b r e]
          exact hne b hb⟩
        clear hne
        have HM2 := hid hx1
        clear hx1
        have HS5 : Hid (∀ nq (x0 x1 x2 x3 x4 : Value), Five (((((((wr.drewN nq).setCell ⟨w.heap.size, 0, none⟩ x0).setCell ⟨w.heap.size, 1, none⟩ x1).setCell ⟨w.heap.size, 2, none⟩ x2).setCell ⟨w.heap.size, 3, none⟩ x3).setCell ⟨w.heap.size, 4, none⟩ x4)) w.heap.size x0 x1 x2 x3 x4 ∧
            Moved w j s (fr + k) (((((((wr.drewN nq).setCell ⟨w.heap.size, 0, none⟩ x0).setCell ⟨w.heap.size, 1, none⟩ x1).setCell ⟨w.heap.size, 2, none⟩ x2).setCell ⟨w.heap.size, 3, none⟩ x3).setCell ⟨w.heap.size, 4, none⟩ x4))) := hid fun nq x0 x1 x2 x3 x4 => by
          obtain ⟨h1, h2, h3⟩ := HM.out
          have hd : Only (fun _ => False) wr (wr.drewN nq) := Only.drewN (Only.refl _ _) nq
          exact ⟨(h3.only hd (fun h => h)).sets _ _ _ _ _, only_sets5 (h1.trans (hd.mono fun _ _ h => h.elim)) _ _ _ _ _, (h2.only hd (fun h => h)).only (only_sets5' _ _ _ _ _ _ _) (fun e => hj0 e)⟩
        obtain ⟨g0, g1, g2, g3, g4, p0, p1, p2, p3, p4⟩ := HM.out.2.2
        have hneg : IntKind.u64.wrap (-(m : Int)) = 18446744073709551616 - (m : Int) := by have := HM1.out (by trivial); rw [IntKind.wrap_u64]; omega
        have hm99 : decide ((9223372036854775808 : Int) < (m : Int)) = false := by have := HM9.out (by trivial); simp; omega
        rcases hpost : post with _ | ⟨pb, pr⟩
        · have HE : Hid (fr + k = s.size) := hid (by have := HAE.out; rw [hpost] at this; exact this.nil)
          have d1e : decide ((fr : Int) + k < s.size) = false := by have := HE.out; simp; omega
          clear hpost
          by_cases hk1 : 1 < k
          · have hx48 := HM2.out hk1
            have dk1 : decide ((1 : Int) < k) = true := by simp; omega
            go_wp2
            go_quiet (fail)
            go_wp2
            refine bodyPost_ret (res_cell1 rfl rfl (HS5.out _ _ _ _ _ _).1) rfl ?_
            try simp only [Bool.false_eq_true, if_false]
            exact ⟨_, _, _, _, _, rfl, IsPk.leaf _ _ _ _ _ (by omega) (by have := HM1.out (by trivial); omega) (by decide), (HS5.out _ _ _ _ _ _).2⟩
          · have dk1 : decide ((1 : Int) < k) = false := by simp; omega
            go_wp2
            go_quiet (fail)
            go_wp2
            refine bodyPost_ret (res_cell1 rfl rfl (HS5.out _ _ _ _ _ _).1) rfl ?_
            try simp only [Bool.false_eq_true, if_false]
            exact ⟨_, _, _, _, _, rfl, IsPk.leaf _ _ _ _ _ (by omega) (by have := HM1.out (by trivial); omega) (by decide), (HS5.out _ _ _ _ _ _).2⟩
        · obtain ⟨hl1, hsb, -⟩ : ∃ hl : fr + k < s.size, s[fr + k] = pb ∧ True := by
            have := HAE.out
            rw [hpost] at this
            exact ⟨this.cons.1, this.cons.2.1, trivial⟩
          have hnd := HP.out pb pr hpost
          have hx : (((s[fr + k]'hl1).toNat : Nat) : Int) = (pb.toNat : Int) := by rw [hsb]
          have d1 : decide ((fr : Int) + k < s.size) = true := by simp; omega
          have d2 : (fr : Int) + k < s.size := by omega
          have d3 : (0 : Int) ≤ (fr : Int) + k := by omega
          clear hpost hsb
          by_cases h48 : pb.toNat < 48
          · have e1 : decide ((48 : Int) ≤ (pb.toNat : Int)) = false := by simp; omega
            by_cases hk1 : 1 < k
            · have hx48 := HM2.out hk1
              have dk1 : decide ((1 : Int) < k) = true := by simp; omega
              go_wp2
              go_quiet (fail)
              go_wp2
              refine bodyPost_ret (res_cell1 rfl rfl (HS5.out _ _ _ _ _ _).1) rfl ?_
              try simp only [Bool.false_eq_true, if_false]
              exact ⟨_, _, _, _, _, rfl, IsPk.leaf _ _ _ _ _ (by omega) (by have := HM1.out (by trivial); omega) (by decide), (HS5.out _ _ _ _ _ _).2⟩
            · have dk1 : decide ((1 : Int) < k) = false := by simp; omega
              go_wp2
              go_quiet (fail)
              go_wp2
              refine bodyPost_ret (res_cell1 rfl rfl (HS5.out _ _ _ _ _ _).1) rfl ?_
              try simp only [Bool.false_eq_true, if_false]
              exact ⟨_, _, _, _, _, rfl, IsPk.leaf _ _ _ _ _ (by omega) (by have := HM1.out (by trivial); omega) (by decide), (HS5.out _ _ _ _ _ _).2⟩
          · have e1 : decide ((48 : Int) ≤ (pb.toNat : Int)) = true := by simp; omega
            have e2 : decide ((pb.toNat : Int) ≤ 57) = false := by simp; omega
            by_cases hk1 : 1 < k
            · have hx48 := HM2.out hk1
              have dk1 : decide ((1 : Int) < k) = true := by simp; omega
              go_wp2
              go_quiet (fail)
              go_wp2
              refine bodyPost_ret (res_cell1 rfl rfl (HS5.out _ _ _ _ _ _).1) rfl ?_
              try simp only [Bool.false_eq_true, if_false]
              exact ⟨_, _, _, _, _, rfl, IsPk.leaf _ _ _ _ _ (by omega) (by have := HM1.out (by trivial); omega) (by decide), (HS5.out _ _ _ _ _ _).2⟩
            · have dk1 : decide ((1 : Int) < k) = false := by simp; omega
              go_wp2
              go_quiet (fail)
              go_wp2
              refine bodyPost_ret (res_cell1 rfl rfl (HS5.out _ _ _ _ _ _).1) rfl ?_
              try simp only [Bool.false_eq_true, if_false]
              exact ⟨_, _, _, _, _, rfl, IsPk.leaf _ _ _ _ _ (by omega) (by have := HM1.out (by trivial); omega) (by decide), (HS5.out _ _ _ _ _ _).2⟩
set_option maxRecDepth 100000 in
set_option maxHeartbeats 16000000 in
theorem number (w : World) (j : Nat) (s : ByteArray) (at_ : Nat) (h : Jt w j s at_) (i : Int) (hi0 : -9223372036854775808 ≤ i) (hi1 : i < 18446744073709551616) (post : List UInt8) (ha : Ahead s at_ (decI i ++ post)) (hp : NoDig post) :
    Calls Tryz.prog 38 #[.pointer (some ⟨j, 0, none⟩)] w (PackPost (.mk (if 0 ≤ i then 3 else 2) (if 0 ≤ i then i else i + 18446744073709551616) ⟨#[]⟩ 0 []) w j s (at_ + (decI i).length)) := by
  obtain ⟨minus, m, fr, hw, hf, hm1, hm2, hfr⟩ : ∃ (minus : Bool) (m fr : Nat), (∀ w1, Jt w1 j s at_ → Calls Tryz.prog 35 #[.pointer (some ⟨j, 0, none⟩), .string ⟨#[45]⟩] w1 (EatPost minus w1 j s fr)) ∧ Ahead s fr (decN m ++ post) ∧
      (minus = true → i < 0 ∧ (m : Int) = -i) ∧ (minus = false → 0 ≤ i ∧ (m : Int) = i) ∧ fr + (decN m).length = at_ + (decI i).length := by
    unfold decI at ha ⊢
    by_cases hi : i < 0
    · rw [if_pos hi] at ha ⊢
      refine ⟨true, (-i).toNat, at_ + 1, fun w1 h1 => word_yes w1 j s ⟨#[45]⟩ at_ h1 _ (show Ahead s at_ ([45] ++ (decN (-i).toNat ++ post)) from ha), ?_, fun _ => ⟨hi, by omega⟩, fun h => absurd h (by simp), by simp; omega⟩
      exact (Ahead.cons ha).2.2
    · rw [if_neg hi] at ha ⊢
      refine ⟨false, i.toNat, at_, fun w1 h1 => word_no w1 j s ⟨#[45]⟩ at_ h1 _ ha ⟨45, [], rfl, fun b r' e => ?_⟩, ha, fun h => absurd h (by simp), fun _ => ⟨by omega, by omega⟩, rfl⟩
      have hd := (decN_facts i.toNat).2.1
      intro e2
      cases hds : decN i.toNat with
      | nil =>
        have := (decN_facts i.toNat)
        by_cases h0 : 0 < i.toNat
        · obtain ⟨b', r, hr, _⟩ := this.2.2 h0
          rw [hds] at hr
          cases hr
        · have h0 : i.toNat = 0 := by omega
          rw [h0, decN_small 0 (by omega)] at hds
          cases hds
      | cons b' r =>
        rw [hds] at e
        injection e with e _
        have := hd b' (by rw [hds]; simp)
        rw [e, e2] at this
        exact absurd this.1 (by decide)
  have hm : m < 18446744073709551616 := by
    cases minus with
    | true => have := hm1 rfl; omega
    | false => have := hm2 rfl; omega
  have hm9 : minus = true → m ≤ 9223372036854775808 := fun h => by have := hm1 h; omega
  have hlen0 : 0 < (decN m).length := by
    by_cases h0 : 0 < m
    · obtain ⟨b, r, hr, _⟩ := (decN_facts m).2.2 h0
      rw [hr]; simp
    · obtain rfl : m = 0 := by omega
      rw [decN_small 0 (by omega)]; simp
  have hlead : 1 < (decN m).length → ∃ b r, decN m = b :: r ∧ b.toNat ≠ 48 := fun h1 => by
    refine (decN_facts m).2.2 ?_
    rcases Nat.eq_zero_or_pos m with rfl | h
    · rw [decN_small 0 (by omega)] at h1; simp at h1
    · exact h
  have hres := number_w minus w j s at_ h (decN m) post m fr hw hf hm hm9 (fun e => by have := hm1 e; omega) hlen0 hlead (decN_facts m).1 (decN_facts m).2.1 hp
  rw [hfr] at hres
  cases minus with
  | true =>
    have := hm1 rfl
    have e : ¬ 0 ≤ i := by omega
    have e2 : (18446744073709551616 : Int) - m = i + 18446744073709551616 := by omega
    simp only [if_true, e2] at hres
    rw [if_neg e, if_neg e]
    exact hres
  | false =>
    have := hm2 rfl
    have e : 0 ≤ i := this.1
    simp only [Bool.false_eq_true, if_false, this.2] at hres
    rw [if_pos e, if_pos e]
    exact hres
end Go.Proofs.YtbgckolcimlofaaGreatDoor
