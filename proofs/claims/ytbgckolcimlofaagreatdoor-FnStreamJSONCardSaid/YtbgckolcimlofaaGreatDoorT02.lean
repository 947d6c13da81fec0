/-
  Rows of bytes in the heap: reading, appending and growing them; each under the bounds that it names.
  Plain facts on the text of strings (quotes, escapes, lengths); no conditions.
  Plain facts on copying cells between rows; within their bounds.
-/
import Derived.Test.YtbgckolcimlofaaGreatDoorProg
import Derived.Test.YtbgckolcimlofaaGreatDoorT01
import Derived.Maps.AppendAt
import Derived.Lib.AppendStr
import Derived.Laws.IdiomStrings
import Derived.Laws.CopyOwn
import Derived.Lib.ValidLaws
import Derived.Lib.MapLaws
import Derived.Deep.QuietTactic
import Derived.BigQuiet
import Derived.Deep.LoopGhost
import Derived.Deep.DeepCutAuto
import Derived.Handy
import Derived.StillTailTactics
set_option linter.unusedVariables false
set_option linter.unusedSimpArgs false
namespace Go.Proofs.YtbgckolcimlofaaGreatDoor
open Go.RowKit YtbgckolcimlofaaGreatDoorPj
theorem tryz_u29 : Tryz.prog.underlying 29 = some (.slice 5) := by kernel_rfl
theorem tryz_u9 : Tryz.prog.underlying 9 = some .string := by kernel_rfl
theorem tryz_u5 : Tryz.prog.underlying 5 = some (.int .u8) := by kernel_rfl
theorem tryz_i5' : (Tryz.prog.info? 5).map (fun i => (i.zero, i.size, i.bytes)) = some (some (.int .u8 0), 1, 1) := by kernel_rfl
theorem tryz_i5 : ∃ i, Tryz.prog.info? 5 = some i ∧ i.zero = some (.int .u8 0) ∧ i.size = 1 ∧ i.bytes = 1 := by
  have h := tryz_i5'
  cases hi : Tryz.prog.info? 5 with
  | none => rw [hi] at h; cases h
  | some i =>
    rw [hi] at h
    simp at h
    exact ⟨i, rfl, h.1, h.2.1, h.2.2⟩

/-- A slice of bytes that owns its row, in a block from 'B' on. -/
def Row (w : World) (B : Nat) (v : Value) (xs : List UInt8) : Prop := w.ownsRow B 5 1 v xs.length (xs.map u8v)

theorem Row.nil (w : World) (B : Nat) : Row w B (.slice none 0 0) [] := World.ownsRow_nil _ _ _ _
theorem Row.open {w : World} {B : Nat} {v : Value} {xs : List UInt8} (h : Row w B v xs) :
    (v = .slice none 0 0 ∧ xs = []) ∨ ∃ g cap, v = .slice (some ⟨g, 0, none⟩) xs.length cap ∧ B ≤ g ∧ g < w.heap.size ∧ xs.length ≤ cap ∧ cap ≤ maxLen ∧ ∀ j (hj : j < xs.length), w.cell? ⟨g, j, none⟩ = some (u8v xs[j]) := by
  rcases h.2 with ⟨h1, h2⟩ | ⟨g, cap, cur, rfl, hb, hg, hn, hm, hs, ht⟩
  · exact Or.inl ⟨h1, List.eq_nil_of_length_eq_zero h2⟩
  · refine Or.inr ⟨g, cap, rfl, hb, ?_, hn, hm, fun j hj => ?_⟩
    · exact (Array.getElem?_eq_some_iff.1 hg).1
    · have := World.ownsRow.cells (w := w) (base := B) (e := 5) (size := 1) (n := xs.length) (xs := xs.map u8v) h (g := g) rfl j (u8v xs[j]) (by simp [hj])
      rwa [Addr.add_lit, Nat.zero_add] at this
theorem Row.only {w w' : World} {B : Nat} {v : Value} {xs : List UInt8} {S : Nat → Prop} (h : Row w B v xs) (ho : Only S w w') (hS : ∀ k, v.ownBlock = some k → ¬ S k) : Row w' B v xs := by
  refine ⟨h.1, ?_⟩
  rcases h.2 with ⟨h1, h2⟩ | ⟨g, cap, cur, rfl, hb, hg, hn, hm, hs, ht⟩
  · exact Or.inl ⟨h1, h2⟩
  · exact Or.inr ⟨g, cap, cur, rfl, hb, (ho.block g (Array.getElem?_eq_some_iff.1 hg).1 (hS g rfl)).trans hg, hn, hm, hs, ht⟩
theorem Row.base {w : World} {B B' : Nat} {v : Value} {xs : List UInt8} (h : Row w B v xs) (hB : ∀ k, v.ownBlock = some k → B' ≤ k) : Row w B' v xs := by
  refine ⟨h.1, ?_⟩
  rcases h.2 with ⟨h1, h2⟩ | ⟨g, cap, cur, rfl, hb, hg, hn, hm, hs, ht⟩
  · exact Or.inl ⟨h1, h2⟩
  · exact Or.inr ⟨g, cap, cur, rfl, hB g rfl, hg, hn, hm, hs, ht⟩
theorem Row.block {w : World} {B : Nat} {v : Value} {xs : List UInt8} (h : Row w B v xs) {k : Nat} (hk : v.ownBlock = some k) : B ≤ k ∧ k < w.heap.size := by
  rcases h.open with ⟨rfl, _⟩ | ⟨g, cap, rfl, hb, hg, _⟩
  · cases hk
  · cases hk; exact ⟨hb, hg⟩
theorem Only.grown {w w1 w2 : World} {S : Nat → Prop} (h : Only S w w1) {r : Option Nat} (hg : w1.grownBy w2 r) (hr : ∀ k, r = some k → k < w.heap.size → S k) : Only S w w2 :=
  ⟨hg.os.trans h.os, hg.tape.trans h.tape, hg.output.trans h.output, Nat.le_trans h.size hg.size,
    fun k hk hs => (hg.block k (Nat.lt_of_lt_of_le hk h.size) (fun e => hs (hr k e.symm hk))).trans (h.block k hk hs)⟩
theorem Only.of_grown {w1 w2 : World} {r : Option Nat} (hg : w1.grownBy w2 r) : Only (fun k => r = some k) w1 w2 :=
  (Only.refl _ w1).grown hg (fun _ h _ => h)

section
variable {w : World} {ops : Array Oper} {rest : List Oper} {o : Oper} {a : Act} {Q : Exit → Act → World → Prop}
/-- 'append(s, x...)', both of bytes, s a row of one's own. -/
theorem row_append (hgd : o.guard = none) (s x : Operand) (ho : o.op = .call { callee := .builtin .append, args := #[s, x], argTypes := #[29, 29] })
    (B : Nat) (v : Value) (xs : List UInt8) (hs : a.eval s = v) (hown : Row w B v xs) (ad : Addr) (m c : Nat) (news : List UInt8) (hx : a.eval x = .slice (some ad) m c) (hl : news.length = m)
    (hnews : ∀ j (hj : j < news.length), w.cell? (ad.add j) = some (u8v news[j])) (hbig : xs.length + news.length ≤ 140737488355328) (hbase : B ≤ w.heap.size)
    (h : ∀ v' w', Row w' B v' (xs ++ news) → w.grownBy w' v.ownBlock → (v'.ownBlock = v.ownBlock ∨ v'.ownBlock = some w.heap.size) → wpList Tryz.prog ops Q rest (a.put o.dst v') w') :
    wpList Tryz.prog ops Q (o :: rest) a w := by
  obtain ⟨i, hi, hz, hz1, hz2⟩ := tryz_i5
  refine wpList_append_own_at _ hgd s x 29 ho B 5 i (.int .u8 0) 1 1 tryz_u29 hi hz hz1 hz2 rfl (by decide) v xs.length (xs.map u8v) hs hown ad m c (news.map u8v) hx (by simpa using hl) ?_ ?_ (by unfold maxLen; omega) (by omega) hbase ?_
  · intro j u hu
    simp at hu
    obtain ⟨b, hb, rfl⟩ := hu
    obtain ⟨hj, rfl⟩ := List.getElem?_eq_some_iff.1 hb
    exact hnews j hj
  · intro u hu
    simp at hu
    obtain ⟨b, _, rfl⟩ := hu
    rfl
  · intro v' w' h1 h2 _ h4
    refine h v' w' ?_ h2 h4
    unfold Row
    rw [List.length_append, List.map_append, hl]
    exact h1
/-- 'append(s, b)'. -/
theorem row_append1 (hgd : o.guard = none) (s x : Operand) (ho : o.op = .call { callee := .builtin .append, args := #[s, x], argTypes := #[29, 29] }) {w0 : World}
    (B : Nat) (v : Value) (xs : List UInt8) (hs : a.eval s = v) (hown : Row w0 B v xs) (b : UInt8) {gz : Nat} (hx : a.eval x = .slice (some ⟨gz, 0, none⟩) 1 1) (hgz : w0.heap.size = gz) (hw : w = w0.alloc (.cells #[.int .u8 b.toNat] 5))
    (hbig : xs.length + 1 ≤ 140737488355328) (hbase : B ≤ w0.heap.size)
    (h : ∀ v' w', Row w' B v' (xs ++ [b]) → w0.grownBy w' v.ownBlock → (v'.ownBlock = v.ownBlock ∨ v'.ownBlock = some (w0.heap.size + 1)) → wpList Tryz.prog ops Q rest (a.put o.dst v') w') :
    wpList Tryz.prog ops Q (o :: rest) a w := by
  subst hw hgz
  have h0 : Only (fun _ => False) w0 (w0.alloc (.cells #[.int .u8 b.toNat] 5)) := by simp
  refine row_append hgd s x ho B v xs hs (hown.only h0 (fun _ _ h => h)) ⟨w0.heap.size, 0, none⟩ 1 1 [b] hx rfl ?_ (by simpa using hbig) (by simp; omega) ?_
  · intro j hj
    have : j = 0 := by simp at hj; omega
    subst this
    exact cell_one_new _ _ _ 0 _ rfl
  · intro v' w' h1 h2 h3
    refine h v' w' h1 ⟨h2.os, h2.tape, h2.output, by have := h2.size; simp at this; omega, fun k hk hne => ?_⟩ (by simpa using h3)
    rw [h2.block k (by simp; omega) hne]
    exact h0.block k hk (fun h => h)
/-- 'append(s, x...)', x a string. -/
theorem row_append_str (hgd : o.guard = none) (s x : Operand) (ho : o.op = .call { callee := .builtin .append, args := #[s, x], argTypes := #[29, 9] })
    (B : Nat) (v : Value) (xs : List UInt8) (hs : a.eval s = v) (hown : Row w B v xs) (t : ByteArray) (hx : a.eval x = .string t) (hbig : xs.length + t.size ≤ 140737488355328) (hbase : B ≤ w.heap.size)
    (h : ∀ v' w', Row w' B v' (xs ++ tx t) → w.grownBy w' v.ownBlock → (∀ k, v'.ownBlock = some k → v.ownBlock = some k ∨ w.heap.size ≤ k) → wpList Tryz.prog ops Q rest (a.put o.dst v') w') :
    wpList Tryz.prog ops Q (o :: rest) a w := by
  obtain ⟨i, hi, hz, hz1, hz2⟩ := tryz_i5
  refine wpList_plain hgd fun K hK => ?_
  have hbig' : xs.length + t.size ≤ maxLen := by unfold maxLen; omega
  obtain ⟨v', w', hr, h2, h3, h4⟩ : ∃ v' w', (Builtin.append_ #[29, 9] o.type #[v, .string t]).run Tryz.prog w = .ok v' w' ∧ Row w' B v' (xs ++ tx t) ∧ w.grownBy w' v.ownBlock ∧ (∀ k, v'.ownBlock = some k → v.ownBlock = some k ∨ w.heap.size ≤ k) := by
    have hlen : (xs ++ tx t).length = xs.length + t.size := by rw [List.length_append, tx_length]
    have hmap : (xs ++ tx t).map u8v = xs.map u8v ++ Lib.strCells t := by rw [List.map_append]; rfl
    rcases hown.open with ⟨rfl, rfl⟩ | ⟨g, cap, rfl, hb, hg, _⟩
    · obtain ⟨v', w', hr, h2, h3, h4⟩ := Lib.run_append_own_string (P := Tryz.prog) w w.heap.size 29 9 o.type 5 i tryz_u29 tryz_u9 hi hz hz1 hz2 (.slice none 0 0) 0 [] (World.ownsRow_nil _ _ _ _) t (by simpa using hbig') (by simpa using hbig) (Nat.le_refl _)
      have hrow : Row w' w.heap.size v' ([] ++ tx t) := by
        unfold Row
        rw [hlen, hmap]
        exact h2
      refine ⟨v', w', hr, hrow.base fun k hk => ?_, h3, fun k hk => Or.inr (hrow.block hk).1⟩
      have := (hrow.block hk).1
      omega
    · obtain ⟨v', w', hr, h2, h3, h4⟩ := Lib.run_append_own_string (P := Tryz.prog) w B 29 9 o.type 5 i tryz_u29 tryz_u9 hi hz hz1 hz2 _ _ _ hown t hbig' hbig hbase
      refine ⟨v', w', hr, ?_, h3, ?_⟩
      · unfold Row
        rw [hlen, hmap]
        exact h2
      · intro k hk
        by_cases hroom : xs.length + t.size ≤ cap
        · rcases hown.2 with ⟨h, _⟩ | ⟨g', cap', cur, he, _, hg', hn', hm', hs', ht'⟩
          · cases h
          · injection he with e1 e2 e3
            injection e1 with e1
            injection e1 with e1
            subst e1 e3
            have hr2 := Lib.run_append_room_string (P := Tryz.prog) w 29 9 o.type 5 i tryz_u29 tryz_u9 hi hz1 g xs.length cap cur hg' t hroom (by omega)
            rw [hr] at hr2
            injection hr2 with e1 e2
            rw [e1] at hk
            exact Or.inl hk
        · have holds := World.ownsRow.cells (w := w) hown (g := g) rfl
          have hr2 := Lib.run_append_grow_string (P := Tryz.prog) w 29 9 o.type 5 i (.int .u8 0) tryz_u29 tryz_u9 hi hz ⟨g, 0, none⟩ xs.length cap (xs.map u8v) (by rw [hz1]; simp) holds t (by omega) (by omega) (by rw [hz2]; exact growslice_fits (by omega) (by omega))
          rw [hr] at hr2
          injection hr2 with e1 e2
          rw [e1] at hk
          injection hk with hk
          exact Or.inr (by simpa using Nat.le_of_eq hk)
  unfold Oper.wp execOp
  simp only [ho, resolve, invoke, builtin, Sem.run_bind, Sem.run_pure, Result.andThen_ok, List.map_toArray, List.map_cons, List.map_nil, hs, hx, hr]
  exact hK _ _ (h v' w' h2 h3 h4)
/-- 'string(b)'. -/
theorem row_string (hgd : o.guard = none) (x : Operand) (ho : o.op = .convert 29 9 x) (B : Nat) (v : Value) (xs : List UInt8) (hx : a.eval x = v) (hown : Row w B v xs)
    (h : wpList Tryz.prog ops Q rest (a.put o.dst (.string ⟨xs.toArray⟩)) w) :
    wpList Tryz.prog ops Q (o :: rest) a w := by
  refine wpList_plain hgd fun K hK => ?_
  have hr : (convert 29 9 v).run Tryz.prog w = .ok (.string ⟨xs.toArray⟩) w := by
    rcases hown.open with ⟨rfl, rfl⟩ | ⟨g, cap, rfl, hb, hg, _, _, hc⟩
    · rw [run_convert_bytes_string w 29 9 5 none 0 0 tryz_u29 tryz_u5 tryz_u9]
      rfl
    · exact run_convert_bytes_back w 29 9 5 ⟨g, 0, none⟩ cap xs tryz_u29 tryz_u5 tryz_u9 (fun j hj => by rw [Addr.add_lit, Nat.zero_add]; exact hc j hj)
  unfold Oper.wp execOp
  simp only [ho, Sem.run_bind, Sem.run_pure, Result.andThen_ok, hx, hr]
  exact hK _ _ h
end
end Go.Proofs.YtbgckolcimlofaaGreatDoor
namespace YtbgckolcimlofaaGreatDoorPj
open Go.Lib

theorem u8_eq {b : UInt8} {n : Nat} (h : b.toNat = n) : b = UInt8.ofNat n := by
  rw [← h]
  simp
theorem u8_toNat_ofNat {n : Nat} (h : n < 256) : (UInt8.ofNat n).toNat = n := by simp; omega
theorem u8_iff (b : UInt8) (n : Nat) (h : n < 256) : b = UInt8.ofNat n ↔ b.toNat = n := by
  constructor
  · rintro rfl
    exact u8_toNat_ofNat h
  · exact u8_eq
theorem v8_lead (l : List UInt8) (hl : l ≠ []) (hv : validD l = true) (h0 : 128 ≤ (l.getD 0 0).toNat) : ∃ r k, decodeL l = (r, k) ∧ 2 ≤ k ∧ k ≤ 4 ∧ k ≤ l.length ∧ validD (l.drop k) = true ∧
    (∀ j, 1 ≤ j → j < k → 128 ≤ (l.getD j 0).toNat ∧ (l.getD j 0).toNat < 192) ∧ (r = 8232 ↔ (l.getD 0 0).toNat = 226 ∧ (l.getD 1 0).toNat = 128 ∧ (l.getD 2 0).toNat = 168) ∧ (r = 8233 ↔ (l.getD 0 0).toNat = 226 ∧ (l.getD 1 0).toNat = 128 ∧ (l.getD 2 0).toNat = 169) ∧ (r = 8232 ∨ r = 8233 → k = 3) := by
  have hle := decodeL_le l hl
  have hst := validD_step l hl
  rw [hv] at hst
  have hb0 := (l.getD 0 0).toNat_lt
  have hb1 := (l.getD 1 0).toNat_lt
  have hb2 := (l.getD 2 0).toNat_lt
  have hb3 := (l.getD 3 0).toNat_lt
  have hN := decodeL_N l
  generalize hg0 : (l.getD 0 0).toNat = b0 at *
  generalize hg1 : (l.getD 1 0).toNat = b1 at *
  generalize hg2 : (l.getD 2 0).toNat = b2 at *
  generalize hg3 : (l.getD 3 0).toNat = b3 at *
  rcases decodeN_shape l.length b0 b1 b2 b3 with ⟨c, e⟩ | ⟨c1, c2, c3, cv, e⟩ | ⟨c1, c2, c3, c4, cv, cs, e⟩ | ⟨c1, c2, c3, c4, c5, cv, cs, e⟩ | e
  · omega
  · rw [e] at hN
    rw [hN] at hst hle
    simp at hst
    refine ⟨_, _, hN, by omega, by omega, hle, hst, fun j h1 h2 => ?_, ?_, ?_, ?_⟩
    · obtain rfl : j = 1 := by omega
      omega
    · omega
    · omega
    · omega
  · rw [e] at hN
    rw [hN] at hst hle
    simp at hst
    refine ⟨_, _, hN, by omega, by omega, hle, hst, fun j h1 h2 => ?_, ?_, ?_, ?_⟩
    · have : j = 1 ∨ j = 2 := by omega
      rcases this with rfl | rfl <;> omega
    · omega
    · omega
    · omega
  · rw [e] at hN
    rw [hN] at hst hle
    simp at hst
    refine ⟨_, _, hN, by omega, by omega, hle, hst, fun j h1 h2 => ?_, ?_, ?_, ?_⟩
    · have : j = 1 ∨ j = 2 ∨ j = 3 := by omega
      rcases this with rfl | rfl | rfl <;> omega
    · omega
    · omega
    · omega
  · rw [e] at hN
    rw [hN] at hst
    simp at hst
theorem v8_ascii (b : UInt8) (r : List UInt8) (h : b.toNat < 128) (hv : validD (b :: r) = true) : validD r = true := by
  rwa [validD_cons b r h] at hv
theorem escB_high (b : UInt8) (h : 128 ≤ b.toNat) : escB b = [b] := by
  unfold escB
  have e : ∀ n : Nat, n < 128 → b ≠ UInt8.ofNat n := fun n hn e => by rw [u8_iff b n (by omega)] at e; omega
  have l : ¬ b < 32 := by rw [UInt8.lt_iff_toNat_lt]; show ¬ b.toNat < 32; omega
  rw [if_neg (by intro h; rcases h with h | h; exact e 92 (by omega) h; exact e 34 (by omega) h), if_neg (show ¬ b = 10 from e 10 (by omega)), if_neg (show ¬ b = 13 from e 13 (by omega)), if_neg (show ¬ b = 9 from e 9 (by omega)),
    if_neg (by intro h; rcases h with h | h | h | h; exact l h; exact e 60 (by omega) h; exact e 62 (by omega) h; exact e 38 (by omega) h)]
theorem escB_plain (b : UInt8) (h : 32 ≤ b.toNat) (h1 : b.toNat ≠ 92) (h2 : b.toNat ≠ 34) (h3 : b.toNat ≠ 60) (h4 : b.toNat ≠ 62) (h5 : b.toNat ≠ 38) : escB b = [b] := by
  unfold escB
  have e : ∀ n : Nat, n < 128 → b.toNat ≠ n → b ≠ UInt8.ofNat n := fun n hn h e => h (by rw [u8_iff b n (by omega)] at e; omega)
  have l : ¬ b < 32 := by rw [UInt8.lt_iff_toNat_lt]; show ¬ b.toNat < 32; omega
  rw [if_neg (by intro h; rcases h with h | h; exact e 92 (by omega) h1 h; exact e 34 (by omega) h2 h), if_neg (show ¬ b = 10 from e 10 (by omega) (by omega)), if_neg (show ¬ b = 13 from e 13 (by omega) (by omega)), if_neg (show ¬ b = 9 from e 9 (by omega) (by omega)),
    if_neg (by intro h; rcases h with h | h | h | h; exact l h; exact e 60 (by omega) h3 h; exact e 62 (by omega) h4 h; exact e 38 (by omega) h5 h)]
theorem esc_cons (b : UInt8) (r : List UInt8) (h : b.toNat ≠ 226) : esc (b :: r) = escB b ++ esc r := by
  rw [esc, if_neg]
  rintro ⟨h1, _⟩
  exact h ((u8_iff b 226 (by omega)).1 h1)
theorem getD_some {l : List UInt8} {i : Nat} (h : i < l.length) : l[i]? = some (l.getD i 0) := by
  rw [List.getD_eq_getElem?_getD, List.getElem?_eq_getElem h]
  rfl
theorem esc_cons' (b : UInt8) (r : List UInt8) (h : ¬ (b.toNat = 226 ∧ (r.getD 0 0).toNat = 128 ∧ ((r.getD 1 0).toNat = 168 ∨ (r.getD 1 0).toNat = 169))) : esc (b :: r) = escB b ++ esc r := by
  rw [esc, if_neg]
  rintro ⟨h1, h2, h3⟩
  apply h
  refine ⟨(u8_iff b 226 (by omega)).1 h1, ?_, ?_⟩
  · rw [List.getD_eq_getElem?_getD, h2]
    rfl
  · rcases h3 with h3 | h3
    · left; rw [List.getD_eq_getElem?_getD, h3]; rfl
    · right; rw [List.getD_eq_getElem?_getD, h3]; rfl
/-- Bytes behind a lead byte stand for themselves. -/
theorem esc_conts : ∀ (k : Nat) (l : List UInt8), k ≤ l.length → (∀ j, j < k → 128 ≤ (l.getD j 0).toNat ∧ (l.getD j 0).toNat < 192) → esc l = l.take k ++ esc (l.drop k)
  | 0, l, _, _ => by simp
  | k + 1, [], h, _ => by simp at h
  | k + 1, b :: r, h, hc => by
    have h0 := hc 0 (by omega)
    simp at h0
    rw [esc_cons b r (by omega), escB_high b h0.1, esc_conts k r (by simpa using h) (fun j hj => by have := hc (j + 1) (by omega); simpa using this)]
    simp
theorem esc_rune (l : List UInt8) (k : Nat) (h2 : 2 ≤ k) (hk : k ≤ l.length) (h0 : 128 ≤ (l.getD 0 0).toNat) (hc : ∀ j, 1 ≤ j → j < k → 128 ≤ (l.getD j 0).toNat ∧ (l.getD j 0).toNat < 192)
    (hn : ¬ ((l.getD 0 0).toNat = 226 ∧ (l.getD 1 0).toNat = 128 ∧ ((l.getD 2 0).toNat = 168 ∨ (l.getD 2 0).toNat = 169))) : esc l = l.take k ++ esc (l.drop k) := by
  cases l with
  | nil => simp at hk; omega
  | cons b r =>
    obtain ⟨k, rfl⟩ : ∃ m, k = m + 1 := ⟨k - 1, by omega⟩
    simp at h0 hn
    rw [esc_cons' b r (by simpa using hn), escB_high b h0, esc_conts k r (by simpa using hk) (fun j hj => by have := hc (j + 1) (by omega) (by omega); simpa using this)]
    simp
theorem esc_2028 (l : List UInt8) (h3 : 3 ≤ l.length) (x : Nat) (hx : x = 168 ∨ x = 169) (h0 : (l.getD 0 0).toNat = 226) (h1 : (l.getD 1 0).toNat = 128) (h2 : (l.getD 2 0).toNat = x) :
    esc l = [92, 117, 50, 48, 50, UInt8.ofNat (x - 112)] ++ esc (l.drop 3) := by
  match l, h3 with
  | a :: b :: c :: r, _ =>
    simp at h0 h1 h2
    have ea := u8_eq h0
    have eb := u8_eq h1
    have ec := u8_eq h2
    subst ea eb ec
    rw [esc, if_pos]
    · rcases hx with rfl | rfl
      · simp
      · simp
    · rcases hx with rfl | rfl
      · exact ⟨rfl, rfl, Or.inl rfl⟩
      · exact ⟨rfl, rfl, Or.inr rfl⟩
theorem esc_len : ∀ (n : Nat) (l : List UInt8), l.length = n → (esc l).length ≤ 6 * l.length := by
  intro n
  induction n using Nat.strongRecOn with
  | _ n ih =>
    intro l hl
    cases l with
    | nil => simp [esc]
    | cons b r =>
      rw [esc]
      split
      · have := ih (r.drop 2).length (by simp at hl; simp; omega) _ rfl
        simp at this ⊢
        omega
      · have := ih r.length (by simp at hl; omega) _ rfl
        have hb : (escB b).length ≤ 6 := by
          unfold escB
          repeat' split
          all_goals simp
        simp at this ⊢
        omega
end YtbgckolcimlofaaGreatDoorPj
namespace Go.Proofs.YtbgckolcimlofaaGreatDoor
open Go.RowKit YtbgckolcimlofaaGreatDoorPj

/-- What chooses forms. -/
structure FormsAt (w : World) (f : Nat) : Prop where
  st : ∃ st : Int, 0 ≤ st ∧ st < 18446744073709551616 ∧ w.cell? ⟨f, 0, none⟩ = some (.int .u64 st)
  sh : w.cell? ⟨f, 1, none⟩ = some (.bool false)
  fz : w.frozen? ⟨f, 0, none⟩ = false
theorem byte_eq (u k : Nat) : (u : Int) / 2 ^ k % 256 = ((UInt8.ofNat (u >>> k)).toNat : Int) := by
  rw [Nat.shiftRight_eq_div_pow]
  simp
theorem be_snoc (i u : Nat) (h : 1 ≤ i) : be i u = UInt8.ofNat (u >>> (8 * (i - 1))) :: be (i - 1) u := by
  obtain ⟨k, rfl⟩ : ∃ k, i = k + 1 := ⟨i - 1, by omega⟩
  rfl
theorem FormsAt.lt {w : World} {f : Nat} (h : FormsAt w f) : f < w.heap.size := World.block_lt_of_cell? w _ h.sh
theorem FormsAt.only {w w' : World} {f : Nat} {S : Nat → Prop} (h : FormsAt w f) (ho : Only S w w') (hS : ¬ S f) : FormsAt w' f := by
  obtain ⟨⟨st, h0, h1, h2⟩, h3, h4⟩ := h
  have hlt := World.block_lt_of_cell? w _ h3
  exact ⟨⟨st, h0, h1, (ho.cell hlt hS).trans h2⟩, (ho.cell hlt hS).trans h3, (ho.frozen hlt hS).trans h4⟩

def PickPost (f : Nat) (n : Nat) (w : World) (e : Ending) (w' : World) : Prop :=
  ∃ r : Nat, r < n ∧ e = .returned (.int .i64 (r : Nat)) ∧ Only (fun k => k = f) w w' ∧ FormsAt w' f

set_option maxRecDepth 100000 in
set_option maxHeartbeats 1000000 in
theorem pick (f n : Nat) (w : World) (hf : FormsAt w f) (h0 : 0 < n) (hn : n ≤ 1000) : Calls Tryz.prog 32 #[.pointer (some ⟨f, 0, none⟩), .int .i64 (n : Nat)] w (PickPost f n w) := by
  have HF := hid hf
  obtain ⟨⟨st, hs0, hs1, hc⟩, hsh, hfz⟩ := hf
  by_cases h1 : n ≤ 1
  · go_enter Tryz.func32, Tryz.ntmps32
    go_wp2
    go_ret
    exact ⟨0, h0, rfl, Only.refl _ _, HF.out⟩
  · go_enter Tryz.func32, Tryz.ntmps32
    go_wp2
    go_ret
    have hr : ∀ y : Int, 0 ≤ IntKind.u64.wrap y ∧ IntKind.u64.wrap y < 18446744073709551616 := fun y => by rw [IntKind.wrap_u64]; omega
    have hx := hr (IntKind.u64.wrap (st * 6364136223846793005) + 1442695040888963407)
    have hsc := (Only.refl (fun k => k = f) w).setCell (p := ⟨f, 0, none⟩) (fun _ => rfl) (.int .u64 (IntKind.u64.wrap (IntKind.u64.wrap (st * 6364136223846793005) + 1442695040888963407)))
    have hff : FormsAt (w.setCell ⟨f, 0, none⟩ (.int .u64 (IntKind.u64.wrap (IntKind.u64.wrap (st * 6364136223846793005) + 1442695040888963407)))) f := by
      refine ⟨⟨_, hx.1, hx.2, by go_simp⟩, by go_simp, by go_simp⟩
    generalize IntKind.u64.wrap (IntKind.u64.wrap (st * 6364136223846793005) + 1442695040888963407) = x at *
    have hy : 0 ≤ x / 8589934592 ∧ x / 8589934592 < 2147483648 := by omega
    generalize x / 8589934592 = y at *
    rw [wrap64_id (by omega) (by omega)]
    obtain ⟨z, rfl⟩ := Int.eq_ofNat_of_zero_le hy.1
    refine ⟨z % n, Nat.mod_lt _ h0, ?_, hsc, hff⟩
    rw [Int.tmod_eq_emod_of_nonneg hy.1]
    rfl

set_option maxRecDepth 100000 in
set_option maxHeartbeats 1000000 in
theorem big (u size : Nat) (w : World) (hu : u < 18446744073709551616) (hs : size ≤ 8) :
    Calls Tryz.prog 31 #[.int .u64 (u : Nat), .int .i64 (size : Nat)] w (fun e w' => ∃ v, e = .returned v ∧ Row w' w.heap.size v (be size u) ∧ Only (fun _ => False) w w') := by
  go_enter Tryz.func31, Tryz.ntmps31
  go_wp2
  go_loopg [5, 6] (size + 1) (fun m v5 v6 wr => ∃ (i : Nat) (out : List UInt8), i + 1 = m ∧ i ≤ size ∧ v6 = .int .i64 ((i : Int) - 1) ∧ Row wr w.heap.size v5 out ∧ Only (fun _ => False) w wr ∧ out.length + i = size ∧ Hid (be size u = out ++ be i u))
  case atStart => exact ⟨size, [], rfl, Nat.le_refl _, by go_num, Row.nil _ _, by simp, by simp, hid rfl⟩
  case round =>
    obtain ⟨i, out, hi, hle, rfl, hown, ho, hlen, hb⟩ := hrel
    have hbw : w.heap.size ≤ wr.heap.size := ho.size
    have HLn := hid hlen
    have HO := hid ho
    clear ho hlen
    by_cases hi0 : 1 ≤ i
    · go_wp2_with (at_builtin; refine row_append1 rfl _ _ rfl w.heap.size u5 _ rfl hown (UInt8.ofNat (u >>> (8 * (i - 1)))) rfl rfl ?_ (by have := HLn.out; omega) hbw ?_; rotate_left 1; intro v' w1 hown1 hgr hat; have HR := hid hown1; have HG := hid hgr; clear hown1 hgr hat)
      · go_roundg (gk - 1)
        case measure => omega
        case rel =>
          refine ⟨i - 1, out ++ [UInt8.ofNat (u >>> (8 * (i - 1)))], by omega, by omega, ?_, HR.out, HO.out.grown HG.out (fun g hg hw => by have := (hown.block hg).1; omega), by have := HLn.out; simp; omega, hid ?_⟩
          · have : ((i - 1 : Nat) : Int) = (i : Int) - 1 := by omega
            rw [this]
          · rw [List.append_assoc, hb.out, be_snoc i u hi0]
            rfl
      · rw [byte_eq]
    · go_wp2
      go_ret
      obtain rfl : i = 0 := by omega
      refine ⟨u5, rfl, ?_, HO.out⟩
      have := hb.out
      rw [be, List.append_nil] at this
      rw [this]
      exact hown
end Go.Proofs.YtbgckolcimlofaaGreatDoor
