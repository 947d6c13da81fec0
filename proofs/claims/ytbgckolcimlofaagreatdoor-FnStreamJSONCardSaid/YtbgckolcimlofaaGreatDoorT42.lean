/-
  The parser: word, a word that must come; for every text.
  Plain facts on four hex digits; for digits.
  The parser: hex and escape; for the escapes that the writer makes.
  utf8.Valid, plain part: the states of the check; no conditions.
-/
import Derived.Test.YtbgckolcimlofaaGreatDoorProg
import Derived.Test.YtbgckolcimlofaaGreatDoorT41
import Derived.Test.YtbgckolcimlofaaGreatDoorT02
import Derived.Test.YtbgckolcimlofaaGreatDoorT26
import Derived.Test.YtbgckolcimlofaaGreatDoorT03
import Derived.Lib.EndianBits
import Derived.Lib.ValidAsc
import Derived.Laws.BitsAllLaws
import Derived.Lib.Walk
set_option linter.unusedVariables false
set_option linter.unusedSimpArgs false
namespace Go.Proofs.YtbgckolcimlofaaGreatDoor
open Go.RowKit YtbgckolcimlofaaGreatDoorPj

theorem extract_tx (s : ByteArray) (a b : Nat) : tx (s.extract a b) = ((tx s).take b).drop a := by
  unfold tx
  rw [ByteArray.data_extract, Array.toList_extract]
  simp [List.extract, List.drop_take]
theorem tx_inj {s x : ByteArray} (h : tx s = tx x) : s = x := by
  obtain ⟨⟨l⟩⟩ := s
  obtain ⟨⟨m⟩⟩ := x
  have : l = m := h
  rw [this]
theorem str_ne {s x : ByteArray} (h : ¬ s = x) : (s.toList == x.toList) = false := by
  rw [toList_eq, toList_eq]
  simp only [beq_eq_false_iff_ne]
  exact fun e => h (tx_inj e)
set_option maxRecDepth 100000 in
set_option maxHeartbeats 1000000 in
theorem word_y (w : World) (j : Nat) (s x : ByteArray) (at_ : Nat) (h : Jt w j s at_) (hx : at_ + x.size ≤ s.size) (he : s.extract at_ (at_ + x.size) = x) :
    Calls Tryz.prog 35 #[.pointer (some ⟨j, 0, none⟩), .string x] w (EatPost true w j s (at_ + x.size)) := by
  have HJ := hid h
  obtain ⟨c0, c1, c2, f1, le, big⟩ := h
  have hw1 : IntKind.i64.wrap ((s.size : Int) - (at_ : Int)) = (s.size : Int) - at_ := IntWalk.i64_in _ (by omega)
  have hw2 : IntKind.i64.wrap ((at_ : Int) + (x.size : Int)) = (at_ : Int) + x.size := IntWalk.i64_in _ (by omega)
  have d1 : decide ((x.size : Int) ≤ (s.size : Int) - at_) = true := by simp; omega
  have d3 : (0 : Int) ≤ at_ := by omega
  have d4 : (at_ : Int) ≤ (at_ : Int) + x.size := by omega
  have d5 : (at_ : Int) + x.size ≤ s.size := by omega
  go_enter Tryz.func35, Tryz.ntmps35
  go_wp2
  go_quiet (fail)
  go_wp2
  go_ret
  exact ⟨rfl, Moved.set HJ.out (Only.drewN (Only.refl _ _) _) _ hx (by omega)⟩
set_option maxRecDepth 100000 in
set_option maxHeartbeats 1000000 in
theorem word_n (w : World) (j : Nat) (s x : ByteArray) (at_ : Nat) (h : Jt w j s at_) (hx : at_ + x.size ≤ s.size) (he : ¬ s.extract at_ (at_ + x.size) = x) :
    Calls Tryz.prog 35 #[.pointer (some ⟨j, 0, none⟩), .string x] w (EatPost false w j s at_) := by
  have HJ := hid h
  have he2 := str_ne he
  clear he
  obtain ⟨c0, c1, c2, f1, le, big⟩ := h
  have hw1 : IntKind.i64.wrap ((s.size : Int) - (at_ : Int)) = (s.size : Int) - at_ := IntWalk.i64_in _ (by omega)
  have hw2 : IntKind.i64.wrap ((at_ : Int) + (x.size : Int)) = (at_ : Int) + x.size := IntWalk.i64_in _ (by omega)
  have d1 : decide ((x.size : Int) ≤ (s.size : Int) - at_) = true := by simp; omega
  have d3 : (0 : Int) ≤ at_ := by omega
  have d4 : (at_ : Int) ≤ (at_ : Int) + x.size := by omega
  have d5 : (at_ : Int) + x.size ≤ s.size := by omega
  go_enter Tryz.func35, Tryz.ntmps35
  go_wp2
  go_quiet (fail)
  go_wp2
  go_ret
  exact ⟨rfl, Only.drewN (Only.refl _ _) _, HJ.out.only (S := fun _ => False) (Only.drewN (Only.refl _ _) _) (fun h => h)⟩
set_option maxRecDepth 100000 in
set_option maxHeartbeats 1000000 in
theorem word_s (w : World) (j : Nat) (s x : ByteArray) (at_ : Nat) (h : Jt w j s at_) (hx : ¬ at_ + x.size ≤ s.size) :
    Calls Tryz.prog 35 #[.pointer (some ⟨j, 0, none⟩), .string x] w (EatPost false w j s at_) := by
  have HJ := hid h
  obtain ⟨c0, c1, c2, f1, le, big⟩ := h
  have hw1 : IntKind.i64.wrap ((s.size : Int) - (at_ : Int)) = (s.size : Int) - at_ := IntWalk.i64_in _ (by omega)
  have d1 : decide ((x.size : Int) ≤ (s.size : Int) - at_) = false := by simp; omega
  go_enter Tryz.func35, Tryz.ntmps35
  go_wp2
  go_quiet (fail)
  go_wp2
  go_ret
  exact ⟨rfl, Only.drewN (Only.refl _ _) _, HJ.out.only (S := fun _ => False) (Only.drewN (Only.refl _ _) _) (fun h => h)⟩
theorem Ahead.word {s x : ByteArray} {at_ : Nat} {r : List UInt8} (h : Ahead s at_ (tx x ++ r)) : at_ + x.size ≤ s.size ∧ s.extract at_ (at_ + x.size) = x ∧ Ahead s (at_ + x.size) r := by
  have h1 := Ahead.app (tx x) h
  rw [tx_length] at h1
  refine ⟨h1.2, tx_inj ?_, h1⟩
  rw [extract_tx, List.drop_take, h.1]
  simp [tx_length]
theorem Ahead.other {s x : ByteArray} {at_ : Nat} {r : List UInt8} (h : Ahead s at_ r) (hx : ∃ c l, tx x = c :: l ∧ ∀ b r', r = b :: r' → b ≠ c) : ¬ s.extract at_ (at_ + x.size) = x := by
  obtain ⟨c, l, hc, hr⟩ := hx
  intro e
  have h1 : tx (s.extract at_ (at_ + x.size)) = c :: l := by rw [e, hc]
  have h2 : x.size = l.length + 1 := by rw [← tx_length, hc]; rfl
  rw [extract_tx, List.drop_take, h.1] at h1
  cases r with
  | nil => simp at h1
  | cons b r =>
    have h3 : at_ + x.size - at_ = l.length + 1 := by omega
    rw [h3, List.take_succ_cons] at h1
    injection h1 with e1 _
    exact hr b r rfl e1
theorem word_yes (w : World) (j : Nat) (s x : ByteArray) (at_ : Nat) (h : Jt w j s at_) (r : List UInt8) (ha : Ahead s at_ (tx x ++ r)) :
    Calls Tryz.prog 35 #[.pointer (some ⟨j, 0, none⟩), .string x] w (EatPost true w j s (at_ + x.size)) := word_y w j s x at_ h ha.word.1 ha.word.2.1
theorem word_no (w : World) (j : Nat) (s x : ByteArray) (at_ : Nat) (h : Jt w j s at_) (r : List UInt8) (ha : Ahead s at_ r) (hx : ∃ c l, tx x = c :: l ∧ ∀ b r', r = b :: r' → b ≠ c) :
    Calls Tryz.prog 35 #[.pointer (some ⟨j, 0, none⟩), .string x] w (EatPost false w j s at_) := by
  by_cases hl : at_ + x.size ≤ s.size
  · exact word_n w j s x at_ h hl (ha.other hx)
  · exact word_s w j s x at_ h hl
end Go.Proofs.YtbgckolcimlofaaGreatDoor
namespace Go.Proofs.YtbgckolcimlofaaGreatDoor
open Go.RowKit YtbgckolcimlofaaGreatDoorPj

def hv (dg : Nat → Nat) : Nat → Nat
  | 0 => 0
  | k + 1 => 16 * hv dg k + dg k
theorem hexd_toNat (m : Nat) (h : m < 16) : (hexd m).toNat = if m < 10 then 48 + m else 87 + m := by
  unfold hexd
  rw [u8_toNat_ofNat (by split <;> omega)]
theorem or32 (x : Int) (h0 : 97 ≤ x) (h1 : x ≤ 102) : bits .or .i64 x 32 = x := by
  have : x = 97 ∨ x = 98 ∨ x = 99 ∨ x = 100 ∨ x = 101 ∨ x = 102 := by omega
  rcases this with rfl | rfl | rfl | rfl | rfl | rfl <;> decide
theorem Moved.step {w w1 : World} {j : Nat} {s : ByteArray} {at_ : Nat} (h : Moved w j s at_ w1) (nq : Nat) (hn : at_ + 1 ≤ s.size) {z : Int} (hz : z = ((at_ + 1 : Nat) : Int)) : Moved w j s (at_ + 1) ((w1.drewN nq).setCell ⟨j, 1, none⟩ (.int .i64 z)) := by
  have := Moved.set h.2 (Only.drewN (Only.refl _ _) nq) (at_ + 1) hn hz
  exact ⟨h.1.trans this.1, this.2⟩
def HexPost (v : Nat) (w : World) (j : Nat) (s : ByteArray) (n : Nat) (e : Ending) (w' : World) : Prop := e = .returned (.int .i64 (v : Nat)) ∧ Moved w j s n w'
set_option maxRecDepth 100000 in
set_option maxHeartbeats 1000000 in
theorem hexs (w : World) (j : Nat) (s : ByteArray) (at_ : Nat) (h : Jt w j s at_) (dg : Nat → Nat) (hd : ∀ k, k < 4 → dg k < 16) (hl : at_ + 4 ≤ s.size) (hb : ∀ k (hk : k < 4), s[at_ + k]'(by omega) = hexd (dg k)) :
    Calls Tryz.prog 61 #[.pointer (some ⟨j, 0, none⟩)] w (HexPost (hv dg 4) w j s (at_ + 4)) := by
  have hv1 : ∀ k, k ≤ 4 → hv dg k < 16 ^ k := by
    intro k
    induction k with
    | zero => intro _; simp [hv]
    | succ k ih => intro hk; have := ih (by omega); have := hd k (by omega); rw [hv, Nat.pow_succ]; omega
  have HD := hid hd
  have hb' : ∀ k (hk : k < 4) (hk' : at_ + k < s.size), s[at_ + k] = hexd (dg k) := fun k hk _ => hb k hk
  have HB := hid hb'
  clear hb hb'
  have HV := hid hv1
  have HL := hid hl
  have H0 : Hid (Moved w j s at_ w) := hid ⟨Only.refl _ _, h⟩
  clear hd hv1 h
  clear hl
  go_enter Tryz.func61, Tryz.ntmps61
  go_wp2
  go_loopg [3, 4, 5] 4 (fun m v3 v4 v5 wr => ∃ k : Nat, k + m = 4 ∧ v3 = .int .i64 (hv dg k : Nat) ∧ v4 = .int .i64 (k : Nat) ∧ Hid (Moved w j s (at_ + k) wr))
  case atStart => exact ⟨0, by omega, rfl, rfl, H0⟩
  case round =>
    obtain ⟨k, hk, rfl, rfl, HM⟩ := hrel
    by_cases hlt : k < 4
    · obtain ⟨c0, c1, c2, f1, le, big⟩ := HM.out.2
      have hl1 : at_ + k < s.size := by have := HL.out; omega
      have hdk := HD.out k hlt
      have hbk := HB.out k hlt hl1
      have d1 : decide (s.size ≤ at_ + k) = false := by simp; omega
      have d2 : (at_ : Int) + k < s.size := by omega
      have d3 : (0 : Int) ≤ (at_ : Int) + k := by omega
      have HVS : Hid (∀ x : Int, x = (dg k : Int) → k < 4 → bits .or .i64 (wrap64 ((hv dg k : Int) * 16)) x = ((hv dg (k + 1) : Nat) : Int)) := hid fun x hx _ => by
        subst hx
        have h1 := HV.out k (by omega)
        have h2 : (16 : Nat) ^ k ≤ 65536 := by
          have : k = 0 ∨ k = 1 ∨ k = 2 ∨ k = 3 := by omega
          rcases this with rfl | rfl | rfl | rfl <;> decide
        rw [wrap64_id (by omega) (by omega), i64_or4 _ _ (by omega) (by omega) (by omega) (by omega) (by omega), hv]
        omega
      by_cases h10 : dg k < 10
      · have hx : (((s[at_ + k]'hl1).toNat : Nat) : Int) = 48 + dg k := by rw [hbk, hexd_toNat _ hdk, if_pos h10]; omega
        clear hbk
        go_wp2
        go_quiet (fail)
        go_wp2
        go_quiet (fail)
        go_wp2
        go_roundg (gk - 1)
        case measure => omega
        case rel =>
          refine ⟨k + 1, by omega, ?_, by go_num, hid (Moved.step HM.out _ (by omega) (by omega))⟩
          exact congrArg (Value.int .i64) (HVS.out _ (by omega) (by omega))
      · have hx : (((s[at_ + k]'hl1).toNat : Nat) : Int) = 87 + dg k := by rw [hbk, hexd_toNat _ hdk, if_neg h10]; omega
        have ho := or32 (87 + (dg k : Int)) (by omega) (by omega)
        have hge : decide (97 ≤ 87 + (dg k : Int)) = true := by simp; omega
        have hle : decide (87 + (dg k : Int) ≤ 102) = true := by simp; omega
        have hle2 : decide (87 + (dg k : Int) ≤ 57) = false := by simp; omega
        clear hbk
        go_wp2
        go_quiet (fail)
        go_wp2
        go_quiet (fail)
        go_wp2
        go_roundg (gk - 1)
        case measure => omega
        case rel =>
          refine ⟨k + 1, by omega, ?_, by go_num, hid (Moved.step HM.out _ (by omega) (by omega))⟩
          exact congrArg (Value.int .i64) (HVS.out _ (by omega) (by omega))
    · obtain rfl : k = 4 := by omega
      go_wp2
      go_ret
      exact ⟨rfl, HM.out⟩
end Go.Proofs.YtbgckolcimlofaaGreatDoor
namespace Go.Proofs.YtbgckolcimlofaaGreatDoor
open Go.RowKit YtbgckolcimlofaaGreatDoorPj

theorem Row.single (w : World) (B g : Nat) (b : UInt8) {z : Int} (hg : w.heap.size = g) (hz : (b.toNat : Int) = z) (hB : B ≤ g) : Row (w.alloc (.cells #[.int .u8 z] 5)) B (.slice (some ⟨g, 0, none⟩) 1 1) [b] := by
  subst hg hz
  exact ⟨by simp, Or.inr ⟨w.heap.size, 1, #[.int .u8 (b.toNat : Int)], rfl, hB, (by show (w.heap.push _)[w.heap.size]? = _; simp), by simp, by unfold maxLen; omega, by simp, by simp; rfl⟩⟩
theorem Moved.alloc {w w1 : World} {j : Nat} {s : ByteArray} {n : Nat} (h : Moved w j s n w1) (o : Obj) : Moved w j s n (w1.alloc o) :=
  ⟨h.1.alloc o, h.2.only (Only.alloc (Only.refl (fun _ => False) _) o) (fun h => h)⟩
def EscPost (bs : List UInt8) (w : World) (j : Nat) (s : ByteArray) (n : Nat) (e : Ending) (w' : World) : Prop := ∃ v, e = .returned v ∧ Row w' w.heap.size v bs ∧ Moved w j s n w'
set_option maxRecDepth 100000 in
set_option maxHeartbeats 4000000 in
theorem escape_sign (w : World) (j : Nat) (s : ByteArray) (at_ : Nat) (h : Jt w j s at_) (c d : UInt8) (r : List UInt8) (ha : Ahead s at_ (c :: r))
    (hc : (c.toNat = 34 ∧ d.toNat = 34) ∨ (c.toNat = 92 ∧ d.toNat = 92) ∨ (c.toNat = 110 ∧ d.toNat = 10) ∨ (c.toNat = 114 ∧ d.toNat = 13) ∨ (c.toNat = 116 ∧ d.toNat = 9)) :
    Calls Tryz.prog 43 #[.pointer (some ⟨j, 0, none⟩)] w (EscPost [d] w j s (at_ + 1)) := by
  obtain ⟨hl, hsb, -⟩ := ha.cons
  have HJ := hid h
  obtain ⟨c0, c1, c2, f1, le, big⟩ := h
  have d1 : decide ((s.size : Int) ≤ at_) = false := by simp; omega
  have d2 : (at_ : Int) < s.size := by omega
  have d3 : (0 : Int) ≤ at_ := by omega
  rcases hc with ⟨hc, hd⟩ | ⟨hc, hd⟩ | ⟨hc, hd⟩ | ⟨hc, hd⟩ | ⟨hc, hd⟩
  all_goals
    have hx : (((s[at_]'hl).toNat : Nat) : Int) = (c.toNat : Int) := by rw [hsb]
    rw [hc] at hx
    have HD := hid hd
    clear hsb hc hd ha
    go_enter Tryz.func43, Tryz.ntmps43
    go_wp2
    go_quiet (fail)
    go_wp2
    go_quiet (fail)
    go_wp2
    go_ret
    exact ⟨_, rfl, Row.single _ _ _ d (by simp) (by rw [HD.out]; rfl) (Nat.le_refl _), (Moved.set HJ.out (Only.drewN (Only.refl _ _) _) _ (by omega) (by omega)).alloc _⟩
/-- A rune's bytes. -/
def RuneIs (v : Nat) (bs : List UInt8) : Prop := (v < 55296 ∨ 57343 < v) ∧ v < 1114112 ∧ bs.map u8v = Lib.runeCells (v : Int)
set_option maxRecDepth 100000 in
set_option maxHeartbeats 4000000 in
theorem escape_hex (w : World) (j : Nat) (s : ByteArray) (at_ : Nat) (h : Jt w j s at_) (dg : Nat → Nat) (hd : ∀ k, k < 4 → dg k < 16) (r : List UInt8) (ha : Ahead s at_ (117 :: hexd (dg 0) :: hexd (dg 1) :: hexd (dg 2) :: hexd (dg 3) :: r)) (bs : List UInt8) (hv9 : hv dg 4 < 55296) (hr : RuneIs (hv dg 4) bs) :
    Calls Tryz.prog 43 #[.pointer (some ⟨j, 0, none⟩)] w (EscPost bs w j s (at_ + 5)) := by
  obtain ⟨hl, hsb, ha1⟩ := ha.cons
  obtain ⟨hl0, hb0, ha2⟩ := ha1.cons
  obtain ⟨hl1, hb1, ha3⟩ := ha2.cons
  obtain ⟨hl2, hb2, ha4⟩ := ha3.cons
  obtain ⟨hl3, hb3, ha5⟩ := ha4.cons
  have HJ := hid h
  have HX : Hid (∀ w1, Jt w1 j s (at_ + 1) → Calls Tryz.prog 61 #[.pointer (some ⟨j, 0, none⟩)] w1 (HexPost (hv dg 4) w1 j s (at_ + 5))) := hid fun w1 h1 => by
    refine hexs w1 j s (at_ + 1) h1 dg hd (by omega) fun k hk => ?_
    have : k = 0 ∨ k = 1 ∨ k = 2 ∨ k = 3 := by omega
    rcases this with rfl | rfl | rfl | rfl
    · exact hb0
    · exact hb1
    · exact hb2
    · exact hb3
  obtain ⟨c0, c1, c2, f1, le, big⟩ := h
  have d1 : decide ((s.size : Int) ≤ at_) = false := by simp; omega
  have d2 : (at_ : Int) < s.size := by omega
  have d3 : (0 : Int) ≤ at_ := by omega
  have hx : (((s[at_]'hl).toNat : Nat) : Int) = 117 := by rw [hsb]; rfl
  have HR := hid hr
  clear hsb ha ha1 ha2 ha3 ha4 ha5 hb0 hb1 hb2 hb3 hd hl0 hl1 hl2 hl3 hr
  generalize hv dg 4 = v at HX hv9 HR
  have hd55 : decide ((55296 : Int) ≤ v) = false := by simp; omega
  have HV9 := hid hv9
  have hwr : IntKind.i32.wrap (v : Int) = v := by rw [IntKind.wrap_i32]; omega
  clear hv9
  go_enter Tryz.func43, Tryz.ntmps43
  go_wp2
  go_quiet (fail)
  obtain ⟨nq1, rfl⟩ : ∃ k, k = nq := ⟨nq, rfl⟩
  go_wp2
  go_quiet (fail)
  go_wp2_with (first
    | (go_at_call 61; refine (HX.out _ ?_).mono ?_; exact (Moved.set HJ.out (Only.drewN (Only.refl _ _) _) _ (by omega) (by omega)).2; rintro e w1 ⟨rfl, h1⟩; have H1 := hid h1; clear h1)
    | (go_at_call 62; refine (Tryz.utf8_AppendRune_plain w.heap.size (.slice none 0 0) 0 [] (v : Int) (by omega) (by have := HV9.out; omega) _ (World.ownsRow_nil _ _ _ _) (by omega) ?_).mono ?_; (have := H1.out.1.size; simpa using this); rintro e w2 ⟨v', rfl, h2, o, h3⟩; have H2 := hid h2; have H3 := hid h3; clear h2 h3))
  go_ret
  obtain ⟨hr1, hr2, hr3⟩ := HR.out
  have h2 := H2.out
  rw [← hr3] at h2
  refine ⟨v', rfl, ?_, ?_⟩
  · unfold Row
    simpa using h2
  · have hs := Moved.set HJ.out (Only.drewN (Only.refl (fun _ => False) w) (nq1 + nq)) (at_ + 1) (by omega) (z := (at_ : Int) + 1) (by omega)
    have ho : Only (fun _ => False) w1 w2 := (Only.alloc (Only.refl _ _) o).grown H3.out (fun k e => nomatch e)
    exact ⟨(hs.1.trans H1.out.1).trans (ho.mono fun _ _ e => e.elim), H1.out.2.only ho (fun e => e)⟩
end Go.Proofs.YtbgckolcimlofaaGreatDoor
namespace Go.Proofs.YtbgckolcimlofaaGreatDoor
open Go.RowKit YtbgckolcimlofaaGreatDoorPj Go.Lib

theorem ascii_skip : ∀ (k : Nat) (l : List UInt8) (_ : ∀ b ∈ l.take k, b.toNat < 128), validD l = validD (l.drop k)
  | 0, l, _ => by simp
  | k + 1, [], _ => by simp
  | k + 1, b :: r, h => by
    rw [validD_cons b r (h b (by simp))]
    exact ascii_skip k r fun c hc => h c (by simp [hc])
/-- The number that eight bytes spell. -/
def le8 (x0 x1 x2 x3 x4 x5 x6 x7 : UInt8) : Nat := leNat [x0, x1, x2, x3, x4, x5, x6, x7]
theorem le8_lt (x0 x1 x2 x3 x4 x5 x6 x7 : UInt8) : le8 x0 x1 x2 x3 x4 x5 x6 x7 < 18446744073709551616 := by
  have := leNat_lt [x0, x1, x2, x3, x4, x5, x6, x7]
  simpa [le8] using this
theorem le8_asc (x0 x1 x2 x3 x4 x5 x6 x7 : UInt8) (h : le8 x0 x1 x2 x3 x4 x5 x6 x7 &&& 9259542123273814144 = 0) : ∀ b ∈ [x0, x1, x2, x3, x4, x5, x6, x7], b.toNat < 128 := by
  have := leNat_mask [x0, x1, x2, x3, x4, x5, x6, x7]
  rw [show [x0, x1, x2, x3, x4, x5, x6, x7].length = 8 from rfl, maskN8] at this
  exact this.1 h
/-- Eight bytes from a place on. -/
def W8 (l : List UInt8) (k : Nat) : Nat := le8 (l.getD k 0) (l.getD (k + 1) 0) (l.getD (k + 2) 0) (l.getD (k + 3) 0) (l.getD (k + 4) 0) (l.getD (k + 5) 0) (l.getD (k + 6) 0) (l.getD (k + 7) 0)
theorem W8_asc (l : List UInt8) (k : Nat) (hl : k + 8 ≤ l.length) (h : W8 l k &&& 9259542123273814144 = 0) : ∀ b ∈ (l.drop k).take 8, b.toNat < 128 := by
  have h1 := le8_asc _ _ _ _ _ _ _ _ h
  have e : (l.drop k).take 8 = [l.getD k 0, l.getD (k + 1) 0, l.getD (k + 2) 0, l.getD (k + 3) 0, l.getD (k + 4) 0, l.getD (k + 5) 0, l.getD (k + 6) 0, l.getD (k + 7) 0] := by
    have h2 : ∀ i, l.getD (k + i) 0 = (l.drop k).getD i 0 := fun i => by rw [List.getD_eq_getElem?_getD, List.getD_eq_getElem?_getD, List.getElem?_drop]
    have h0 := h2 0
    rw [Nat.add_zero] at h0
    rw [h0, h2 1, h2 2, h2 3, h2 4, h2 5, h2 6, h2 7]
    have h3 : 8 ≤ (l.drop k).length := by rw [List.length_drop]; omega
    generalize l.drop k = m at h3
    match m, h3 with
    | a0 :: a1 :: a2 :: a3 :: a4 :: a5 :: a6 :: a7 :: r, _ => simp
  rw [e]
  exact h1
theorem take_add {α : Type} (l : List α) (a b : Nat) : l.take (a + b) = l.take a ++ (l.drop a).take b := List.take_add
set_option maxRecDepth 100000 in
set_option maxHeartbeats 4000000 in
theorem wordB (g off n c : Nat) (x0 x1 x2 x3 x4 x5 x6 x7 : UInt8) (w : World) (hn : 8 ≤ n) (c0 : w.cell? ⟨g, off, none⟩ = some (.int .u8 (x0.toNat : Int))) (c1 : w.cell? ⟨g, off + 1, none⟩ = some (.int .u8 (x1.toNat : Int))) (c2 : w.cell? ⟨g, off + 2, none⟩ = some (.int .u8 (x2.toNat : Int))) (c3 : w.cell? ⟨g, off + 3, none⟩ = some (.int .u8 (x3.toNat : Int)))
    (c4 : w.cell? ⟨g, off + 4, none⟩ = some (.int .u8 (x4.toNat : Int))) (c5 : w.cell? ⟨g, off + 5, none⟩ = some (.int .u8 (x5.toNat : Int))) (c6 : w.cell? ⟨g, off + 6, none⟩ = some (.int .u8 (x6.toNat : Int))) (c7 : w.cell? ⟨g, off + 7, none⟩ = some (.int .u8 (x7.toNat : Int))) :
    Calls Tryz.prog 60 #[.slice (some ⟨g, off, none⟩) n c] w fun e w' => e = .returned (.int .u64 (le8 x0 x1 x2 x3 x4 x5 x6 x7 : Nat)) ∧ ∃ q, w' = w.drewN q := by
  have h0 := x0.toNat_lt
  have h1 := x1.toNat_lt
  have h2 := x2.toNat_lt
  have h3 := x3.toNat_lt
  have h4 := x4.toNat_lt
  have h5 := x5.toNat_lt
  have h6 := x6.toNat_lt
  have h7 := x7.toNat_lt
  have hv : ((le8 x0 x1 x2 x3 x4 x5 x6 x7 : Nat) : Int) = (x0.toNat : Int) + (x1.toNat : Int) * 256 + (x2.toNat : Int) * 65536 + (x3.toNat : Int) * 16777216 + (x4.toNat : Int) * 4294967296 + (x5.toNat : Int) * 1099511627776 + (x6.toNat : Int) * 281474976710656 + (x7.toNat : Int) * 72057594037927936 := by
    simp only [le8, Lib.leNat]
    push_cast
    omega
  have q0 : (0 : Int) < (n : Int) := by omega
  have q1 : (1 : Int) < (n : Int) := by omega
  have q2 : (2 : Int) < (n : Int) := by omega
  have q3 : (3 : Int) < (n : Int) := by omega
  have q4 : (4 : Int) < (n : Int) := by omega
  have q5 : (5 : Int) < (n : Int) := by omega
  have q6 : (6 : Int) < (n : Int) := by omega
  have q7 : (7 : Int) < (n : Int) := by omega
  go_enter Tryz.func60, Tryz.ntmps60
  go_wp2
  go_quiet (fail)
  go_wp2
  go_ret
  refine ⟨?_, _, rfl⟩
  simp (disch := omega) only [u64_wrap_id, u64_or8, u64_or16, u64_or24, u64_or32, u64_or40, u64_or48, u64_or56]
  rw [hv]
  rfl
end Go.Proofs.YtbgckolcimlofaaGreatDoor
