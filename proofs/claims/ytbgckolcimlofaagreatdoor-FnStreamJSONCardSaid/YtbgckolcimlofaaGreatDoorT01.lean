/-
  PLAIN WORDS: a value of the pack type, its JSON text, its bytes; no program in sight; no conditions.
  The relation between worlds (only named blocks and new ones have turned) and the predicate that cells tell a value; no conditions.
  Plain facts on bits and remainders of whole numbers; each under its own bounds.
-/
import Derived.WalkKit
import Derived.WalkSpells
import Derived.WalkLawsBesides
import Derived.Laws.BitsLemmas
import Derived.Lib.EndianBits
set_option linter.unusedVariables false
set_option linter.unusedSimpArgs false
namespace YtbgckolcimlofaaGreatDoorPj
/-- A value of MessagePack, as a tree. -/
inductive P where
  | mk (kind num : Int) (text : ByteArray) (ext : Int) (kids : List P)

namespace P
def kind : P → Int | .mk k _ _ _ _ => k
def num : P → Int | .mk _ n _ _ _ => n
def text : P → ByteArray | .mk _ _ t _ _ => t
def ext : P → Int | .mk _ _ _ e _ => e
def kids : P → List P | .mk _ _ _ _ l => l
end P

theorem P.sizeOf_kid (p : P) (j : Nat) (hj : j < p.kids.length) : sizeOf p.kids[j] < sizeOf p := by
  cases p with
  | mk k n t e ks =>
    have h1 : sizeOf ks[j] < sizeOf ks := List.sizeOf_lt_of_mem (List.getElem_mem hj)
    have h2 : sizeOf (P.mk k n t e ks) = 1 + sizeOf k + sizeOf n + sizeOf t + sizeOf e + sizeOf ks := by simp
    show sizeOf ks[j] < sizeOf (P.mk k n t e ks)
    omega
theorem P.ind {m : P → Prop} (h : ∀ p : P, (∀ (j : Nat) (hj : j < p.kids.length), m p.kids[j]) → m p) (p : P) : m p := by
  generalize hn : sizeOf p = n
  induction n using Nat.strongRecOn generalizing p with
  | _ n ih =>
    subst hn
    exact h p fun j hj => ih _ (p.sizeOf_kid j hj) _ rfl

mutual
/-- How many values there are in a value. -/
def cnt : P → Nat
  | .mk _ _ _ _ ks => cntAll ks + 1
def cntAll : List P → Nat
  | [] => 0
  | p :: r => cnt p + cntAll r
end
theorem cnt_eq (p : P) : cnt p = cntAll p.kids + 1 := by cases p; simp [cnt, P.kids]
theorem cntAll_take (l : List P) (j : Nat) (hj : j < l.length) : cntAll (l.take (j + 1)) = cntAll (l.take j) + cnt l[j] := by
  induction l generalizing j with
  | nil => simp at hj
  | cons p r ih =>
    cases j with
    | zero => simp [cntAll]
    | succ j =>
      have := ih j (by simpa using hj)
      simp [cntAll, this]; omega
theorem cntAll_take_le (l : List P) (j : Nat) : cntAll (l.take j) ≤ cntAll l := by
  induction l generalizing j with
  | nil => simp
  | cons p r ih => cases j with
    | zero => simp [cntAll]
    | succ j => simp [cntAll]; exact ih j

/-- The bytes of a text. -/
def tx (s : ByteArray) : List UInt8 := s.data.toList

/-- A number's lowest bytes, the highest of them first. -/
def be : Nat → Nat → List UInt8
  | 0, _ => []
  | k + 1, u => UInt8.ofNat (u >>> (8 * k)) :: be k u

/-- Decimal digits. -/
def decN (n : Nat) : List UInt8 :=
  if n < 10 then [UInt8.ofNat (48 + n)] else decN (n / 10) ++ [UInt8.ofNat (48 + n % 10)]
termination_by n
decreasing_by omega

def decI (i : Int) : List UInt8 := if i < 0 then 45 :: decN (-i).toNat else decN i.toNat

def hexd (n : Nat) : UInt8 := UInt8.ofNat (if n < 10 then 48 + n else 87 + n)

/-- What 'packFits' asks of a value itself. -/
structure PNode (p : P) : Prop where
  k0 : 0 ≤ p.kind
  k1 : p.kind ≤ 10
  kids : p.kind = 8 ∨ p.kind = 9 ∨ p.kids.length = 0
  text : p.kind = 6 ∨ p.kind = 7 ∨ p.kind = 10 ∨ p.text.size = 0
  num : 1 ≤ p.kind ∧ p.kind ≤ 5 ∨ p.num = 0
  ext : p.kind = 10 ∨ p.ext = 0
  bool : p.kind = 1 → p.num ≤ 1
  map : p.kind = 9 → p.kids.length % 2 = 0
  few : p.kids.length ≤ 2000
  short : p.text.size ≤ 131072
/-- .. and of all that is in it. -/
def Fit : Nat → P → Prop
  | 0, _ => False
  | n + 1, p => PNode p ∧ ∀ (j : Nat) (hj : j < p.kids.length), Fit n p.kids[j]

/-- The kind of a value, integers that are not below 0 as those without a sign. -/
def nk (k n : Int) : Int := if k = 2 ∧ n < 9223372036854775808 then 3 else k
/-- Two values are the same, integers by their value. -/
inductive Same : P → P → Prop where
  | mk (a b : P) (hk : nk a.kind a.num = nk b.kind b.num) (hn : a.num = b.num) (ht : a.text = b.text) (he : a.ext = b.ext) (hl : a.kids.length = b.kids.length)
      (hs : ∀ (i : Nat) (h : i < a.kids.length) (h' : i < b.kids.length), Same a.kids[i] b.kids[i]) : Same a b

/-- No map in a value has an empty key. -/
inductive NoEmpty : P → Prop where
  | mk (p : P) (h1 : ∀ (i : Nat) (h : i < p.kids.length), p.kind = 9 → i % 2 = 0 → p.kids[i].text.size ≠ 0) (h2 : ∀ (i : Nat) (h : i < p.kids.length), NoEmpty p.kids[i]) : NoEmpty p

/-- How a byte stands in a string of JSON. -/
def escB (b : UInt8) : List UInt8 :=
  if b = 92 ∨ b = 34 then [92, b]
  else if b = 10 then [92, 110]
  else if b = 13 then [92, 114]
  else if b = 9 then [92, 116]
  else if b < 32 ∨ b = 60 ∨ b = 62 ∨ b = 38 then [92, 117, 48, 48, hexd (b.toNat / 16), hexd (b.toNat % 16)]
  else [b]

/-- How a text stands between the quotes: U+2028 and U+2029 as escapes. -/
def esc : List UInt8 → List UInt8
  | [] => []
  | b :: r =>
    if b = 226 ∧ r[0]? = some 128 ∧ (r[1]? = some 168 ∨ r[1]? = some 169) then
      [92, 117, 50, 48, 50, if r[1]? = some 168 then 56 else 57] ++ esc (r.drop 2)
    else escB b ++ esc r
termination_by l => l.length
decreasing_by all_goals simp <;> omega

def quote (t : List UInt8) : List UInt8 := 34 :: (esc t ++ [34])

def b64c (n : Nat) : UInt8 :=
  UInt8.ofNat (if n < 26 then 65 + n else if n < 52 then 71 + n else if n < 62 then n - 4 else if n = 62 then 43 else 47)

def b64 : List UInt8 → List UInt8
  | [] => []
  | [a] => [b64c (a.toNat / 4), b64c (a.toNat % 4 * 16), 61, 61]
  | [a, b] => [b64c (a.toNat / 4), b64c (a.toNat % 4 * 16 + b.toNat / 16), b64c (b.toNat % 16 * 4), 61]
  | a :: b :: c :: r => b64c (a.toNat / 4) :: b64c (a.toNat % 4 * 16 + b.toNat / 16) :: b64c (b.toNat % 16 * 4 + c.toNat / 64) :: b64c (c.toNat % 64) :: b64 r

/-- The integer of a value of kind 2 or 3. -/
def ival (k n : Int) : Int := if k = 2 ∧ 9223372036854775808 ≤ n then n - 18446744073709551616 else n

mutual
/-- The JSON that is written for a value. -/
def js : P → List UInt8
  | .mk k n t _ ks =>
    if k = 0 then [110, 117, 108, 108]
    else if k = 1 then (if n = 0 then [102, 97, 108, 115, 101] else [116, 114, 117, 101])
    else if k = 2 ∨ k = 3 then decI (ival k n)
    else if k = 6 then quote (tx t)
    else if k = 7 then 34 :: (b64 (tx t) ++ [34])
    else if k = 8 then 91 :: (jsArr ks ++ [93])
    else 123 :: (jsMap ks ++ [125])
def jsArr : List P → List UInt8
  | [] => []
  | p :: r => js p ++ jsArrT r
def jsArrT : List P → List UInt8
  | [] => []
  | p :: r => 44 :: (js p ++ jsArrT r)
def jsMap : List P → List UInt8
  | [] => []
  | [_] => []
  | p :: q :: r => quote (tx p.text) ++ 58 :: (js q ++ jsMapT r)
def jsMapT : List P → List UInt8
  | [] => []
  | [_] => []
  | p :: q :: r => 44 :: (quote (tx p.text) ++ 58 :: (js q ++ jsMapT r))
end
end YtbgckolcimlofaaGreatDoorPj
namespace Go.Proofs.YtbgckolcimlofaaGreatDoor
open Go.RowKit YtbgckolcimlofaaGreatDoorPj

/-- 'w' to 'w'': only blocks of 'S' and new ones have turned. -/
structure Only (S : Nat → Prop) (w w' : World) : Prop where
  os : w'.os = w.os
  tape : w'.tape = w.tape
  output : w'.output = w.output
  size : w.heap.size ≤ w'.heap.size
  block : ∀ k, k < w.heap.size → ¬ S k → w'.heap[k]? = w.heap[k]?

theorem ret_int {k : IntKind} {a b : Int} (h : a = b) : Ending.returned (.int k a) = .returned (.int k b) := by rw [h]
theorem toList_eq (t : ByteArray) : t.toList = t.data.toList := by
  obtain ⟨⟨l⟩⟩ := t
  simp
theorem size_eq' (t : ByteArray) : t.size = t.data.toList.length := by
  simp only [Array.length_toList]
  rfl
theorem tx_length (t : ByteArray) : (tx t).length = t.size := (size_eq' t).symm
theorem size_of_toList {t : ByteArray} (h : t.toList = []) : t.size = 0 := by
  rw [toList_eq] at h
  rw [size_eq', h]
  rfl
theorem toList_ne {t : ByteArray} (h : ¬ t.toList = []) : t.size ≠ 0 := by
  intro h0
  apply h
  rw [toList_eq]
  exact List.eq_nil_of_length_eq_zero (by rw [← size_eq']; exact h0)
theorem hid {p : Prop} (h : p) : Hid p := h

namespace Only
variable {S T : Nat → Prop} {w w' w1 w2 : World}
@[simp] theorem refl (S : Nat → Prop) (w : World) : Only S w w := ⟨rfl, rfl, rfl, Nat.le_refl _, fun _ _ _ => rfl⟩
theorem trans (h : Only S w w1) (k : Only S w1 w2) : Only S w w2 :=
  ⟨k.os.trans h.os, k.tape.trans h.tape, k.output.trans h.output, Nat.le_trans h.size k.size,
    fun i hi hs => (k.block i (Nat.lt_of_lt_of_le hi h.size) hs).trans (h.block i hi hs)⟩
theorem mono (h : Only S w w1) (hST : ∀ k, k < w.heap.size → S k → T k) : Only T w w1 :=
  ⟨h.os, h.tape, h.output, h.size, fun k hk ht => h.block k hk fun hs => ht (hST k hk hs)⟩
/-- Two steps, the second of which may turn what is new for the first. -/
theorem trans' (h : Only S w w1) (k : Only T w1 w2) (hT : ∀ i, i < w.heap.size → T i → S i) : Only S w w2 :=
  ⟨k.os.trans h.os, k.tape.trans h.tape, k.output.trans h.output, Nat.le_trans h.size k.size,
    fun i hi hs => (k.block i (Nat.lt_of_lt_of_le hi h.size) fun ht => hs (hT i hi ht)).trans (h.block i hi hs)⟩
theorem size_alloc (w : World) (o : Obj) : (w.alloc o).heap.size = w.heap.size + 1 := by simp
@[simp] theorem alloc (h : Only S w w1) (o : Obj) : Only S w (w1.alloc o) :=
  ⟨h.os, h.tape, h.output, by have := h.size; have := size_alloc w1 o; omega, fun k hk hs => (Below.heap_alloc w1 o k (Nat.lt_of_lt_of_le hk h.size)).trans (h.block k hk hs)⟩
@[simp] theorem setCell (h : Only S w w1) {p : Addr} (hp : p.block < w.heap.size → S p.block) (u : Value) : Only S w (w1.setCell p u) :=
  ⟨h.os, h.tape, h.output, by simpa [World.setCell] using h.size, fun k hk hs => (Below.heap_setCell w1 p u k (fun e => hs (e ▸ hp (e ▸ hk)))).trans (h.block k hk hs)⟩
@[simp] theorem drew (h : Only S w w1) : Only S w w1.drew := ⟨h.os, h.tape, h.output, h.size, h.block⟩
@[simp] theorem drewN (h : Only S w w1) (n : Nat) : Only S w (w1.drewN n) := ⟨h.os, h.tape, h.output, h.size, h.block⟩
theorem of_below (h : Below w.heap.size w w') : Only S w w' := ⟨h.os, h.tape, h.output, h.size, fun k hk _ => h.block k hk⟩
theorem below (h : Only S w w') {B : Nat} (hB : B ≤ w.heap.size) (hS : ∀ k, k < B → ¬ S k) : Below B w w' :=
  ⟨h.os, h.tape, h.output, h.size, fun k hk => h.block k (Nat.lt_of_lt_of_le hk hB) (hS k hk)⟩
theorem cell (h : Only S w w') {b o : Nat} (hb : b < w.heap.size) (hs : ¬ S b) : w'.cell? ⟨b, o, none⟩ = w.cell? ⟨b, o, none⟩ :=
  World.cell?_of_block (w := w) (h.block b hb hs)
theorem frozen (h : Only S w w') {b o : Nat} (hb : b < w.heap.size) (hs : ¬ S b) : w'.frozen? ⟨b, o, none⟩ = w.frozen? ⟨b, o, none⟩ :=
  World.frozen?_of_block (w := w) (h.block b hb hs)
end Only

/-- The five cells of a value, and its kids in blocks of 'ok'. -/
inductive IsPk (w : World) (ok : Nat → Prop) : P → List Value → Prop where
  | mk (k n : Int) (t : ByteArray) (e : Int) (ks : List P) (A : Option Addr) (cap : Nat) (cs : Nat → List Value)
      (hlen : ks.length ≤ 9223372036854775807) (hn0 : 0 ≤ n) (hn : n < 18446744073709551616) (ht : t.size ≤ 9223372036854775807)
      (hks : ∀ (j : Nat) (hj : j < ks.length), IsPk w ok ks[j] (cs j))
      (hat : 0 < ks.length → ∃ b off, A = some ⟨b, off, none⟩ ∧ ok b ∧ ∀ j, j < ks.length → ∀ i u, (cs j)[i]? = some u → w.cell? ⟨b, off + (j * 5 + i), none⟩ = some u) :
      IsPk w ok (.mk k n t e ks) [.int .i64 k, .int .u64 n, .string t, .int .i64 e, .slice A ks.length cap]
theorem IsPk.keep {w w' : World} {ok ok' : Nat → Prop} {p : P} {cs : List Value} (h : IsPk w ok p cs) (hk : ∀ k, k < w.heap.size → ok k → ok' k ∧ w'.heap[k]? = w.heap[k]?) : IsPk w' ok' p cs := by
  induction h with
  | mk k n t e ks A cap cs hlen hn0 hn ht hks hat ih =>
    refine .mk k n t e ks A cap cs hlen hn0 hn ht ih fun h0 => ?_
    obtain ⟨b, off, hA, hb, hc⟩ := hat h0
    have hcs : ∃ u, (cs 0)[0]? = some u := by
      have h1 := hks 0 h0
      generalize cs 0 = c at h1
      generalize ks[0] = q at h1
      cases h1
      exact ⟨_, rfl⟩
    obtain ⟨u, hu⟩ := hcs
    have hlt : b < w.heap.size := World.block_lt_of_cell? w _ (hc 0 h0 0 u hu)
    obtain ⟨h1, h2⟩ := hk b hlt hb
    refine ⟨b, off, hA, h1, fun j hj i u hu => ?_⟩
    rw [World.cell?_of_block (w := w) (a := ⟨b, _, none⟩) h2]
    exact hc j hj i u hu
theorem IsPk.only {w w' : World} {ok : Nat → Prop} {p : P} {cs : List Value} {S : Nat → Prop} (h : IsPk w ok p cs) (ho : Only S w w') (hS : ∀ k, k < w.heap.size → ok k → ¬ S k) : IsPk w' ok p cs :=
  h.keep fun k hk hok => ⟨hok, ho.block k hk (hS k hk hok)⟩

/-- .. and its kids in blocks below 'B'. -/
def IsPack (w : World) (B : Nat) (p : P) (cs : List Value) : Prop := IsPk w (fun k => k < B) p cs
theorem IsPack.keep {w w' : World} {B B' : Nat} {p : P} {cs : List Value} (h : IsPack w B p cs) (hB : B ≤ B') (hk : ∀ k, k < B → w'.heap[k]? = w.heap[k]?) : IsPack w' B' p cs :=
  IsPk.keep h fun k _ hok => ⟨by omega, hk k hok⟩
theorem IsPack.only {w w' : World} {B : Nat} {p : P} {cs : List Value} {S : Nat → Prop} (h : IsPack w B p cs) (ho : Only S w w') (hB : B ≤ w.heap.size) (hS : ∀ k, k < B → ¬ S k) : IsPack w' B p cs :=
  h.keep (Nat.le_refl _) (ho.below hB hS).block
/-- All blocks that a value is told by are there. -/
theorem IsPk.now {w : World} {ok : Nat → Prop} {p : P} {cs : List Value} (h : IsPk w ok p cs) : IsPack w w.heap.size p cs :=
  IsPk.keep h fun _ hk _ => ⟨hk, rfl⟩
/-- The cells of a value whose kids lie behind 'A'. -/
def P.cells (p : P) (A : Option Addr) (cap : Nat) : List Value := [.int .i64 p.kind, .int .u64 p.num, .string p.text, .int .i64 p.ext, .slice A p.kids.length cap]
/-- The kids of a value lie behind 'A'. -/
def Kids (w : World) (B : Nat) (A : Option Addr) (ks : List P) : Prop :=
  ∀ (j : Nat) (hj : j < ks.length), ∃ b off A' cap', A = some ⟨b, off, none⟩ ∧ b < B ∧
        w.cell? ⟨b, off + j * 5, none⟩ = some (.int .i64 ks[j].kind) ∧ w.cell? ⟨b, off + j * 5 + 1, none⟩ = some (.int .u64 ks[j].num) ∧
        w.cell? ⟨b, off + j * 5 + 2, none⟩ = some (.string ks[j].text) ∧ w.cell? ⟨b, off + j * 5 + 3, none⟩ = some (.int .i64 ks[j].ext) ∧
        w.cell? ⟨b, off + j * 5 + 4, none⟩ = some (.slice A' ks[j].kids.length cap') ∧
        IsPack w B ks[j] [.int .i64 ks[j].kind, .int .u64 ks[j].num, .string ks[j].text, .int .i64 ks[j].ext, .slice A' ks[j].kids.length cap']
theorem Kids.only {w w' : World} {B : Nat} {A : Option Addr} {ks : List P} {S : Nat → Prop} (h : Kids w B A ks) (ho : Only S w w') (hB : B ≤ w.heap.size) (hS : ∀ k, k < B → ¬ S k) : Kids w' B A ks := by
  intro j hj
  obtain ⟨b, off, A', cap', hA, hb, c0, c1, c2, c3, c4, hp⟩ := h j hj
  have hbw : b < w.heap.size := by omega
  exact ⟨b, off, A', cap', hA, hb, (ho.cell hbw (hS b hb)).trans c0, (ho.cell hbw (hS b hb)).trans c1, (ho.cell hbw (hS b hb)).trans c2, (ho.cell hbw (hS b hb)).trans c3, (ho.cell hbw (hS b hb)).trans c4, hp.only ho hB hS⟩
theorem IsPack.open {w : World} {B : Nat} {p : P} {cs : List Value} (h : IsPack w B p cs) :
    ∃ A cap, cs = [.int .i64 p.kind, .int .u64 p.num, .string p.text, .int .i64 p.ext, .slice A p.kids.length cap] ∧ p.kids.length ≤ 9223372036854775807 ∧ Kids w B A p.kids := by
  unfold IsPack at h
  cases h with
  | mk k n t e ks A cap cs hlen _ _ _ hks hat =>
    refine ⟨A, cap, rfl, hlen, fun j hj => ?_⟩
    obtain ⟨b, off, hA, hb, hc⟩ := hat (Nat.lt_of_le_of_lt (Nat.zero_le _) hj)
    have hj' : j < ks.length := hj
    have h1 := hks j hj'
    have h2 := hc j hj'
    generalize hcs : cs j = c at h1 h2
    show ∃ b off A' cap', A = some ⟨b, off, none⟩ ∧ b < B ∧
        w.cell? ⟨b, off + j * 5, none⟩ = some (.int .i64 ks[j].kind) ∧ w.cell? ⟨b, off + j * 5 + 1, none⟩ = some (.int .u64 ks[j].num) ∧
        w.cell? ⟨b, off + j * 5 + 2, none⟩ = some (.string ks[j].text) ∧ w.cell? ⟨b, off + j * 5 + 3, none⟩ = some (.int .i64 ks[j].ext) ∧
        w.cell? ⟨b, off + j * 5 + 4, none⟩ = some (.slice A' ks[j].kids.length cap') ∧
        IsPack w B ks[j] [.int .i64 ks[j].kind, .int .u64 ks[j].num, .string ks[j].text, .int .i64 ks[j].ext, .slice A' ks[j].kids.length cap']
    generalize ks[j] = q at h1
    cases h1 with
    | mk k' n' t' e' ks' A' cap' cs' hlen' hn0' hn' ht' hks' hat' =>
      exact ⟨b, off, A', cap', hA, hb, h2 0 _ rfl, h2 1 _ rfl, h2 2 _ rfl, h2 3 _ rfl, h2 4 _ rfl, .mk k' n' t' e' ks' A' cap' cs' hlen' hn0' hn' ht' hks' hat'⟩
theorem IsPack.nums {w : World} {B : Nat} {p : P} {cs : List Value} (h : IsPack w B p cs) : 0 ≤ p.num ∧ p.num < 18446744073709551616 ∧ p.text.size ≤ 9223372036854775807 := by
  unfold IsPack at h
  cases h with
  | mk k n t e ks A cap cs hlen hn0 hn ht _ _ => exact ⟨hn0, hn, ht⟩
end Go.Proofs.YtbgckolcimlofaaGreatDoor
namespace Go.Proofs.YtbgckolcimlofaaGreatDoor
open Go.RowKit YtbgckolcimlofaaGreatDoorPj
def u8v (b : UInt8) : Value := .int .u8 b.toNat
theorem wraps_i64 (n : Int) (h₀ : 0 ≤ n) (h₁ : n < 2 ^ 63) : IntKind.i64.wrap n = n := by rw [IntKind.wrap_i64]; omega
theorem wrap64_id {n : Int} (h₀ : -9223372036854775808 ≤ n) (h₁ : n < 9223372036854775808) : wrap64 n = n := by unfold wrap64; omega
theorem i64_or8 (x y : Int) (hx₀ : 0 ≤ x) (hx : x % 256 = 0) (hx₁ : x < 9223372036854775808) (h₀ : 0 ≤ y) (h₁ : y < 256) : bits .or .i64 x y = x + y :=
  bits_join .i64 63 (by decide) wraps_i64 8 x y hx₀ hx hx₁ h₀ h₁ (by omega)
theorem i64_or4 (x y : Int) (hx₀ : 0 ≤ x) (hx : x % 16 = 0) (hx₁ : x < 9223372036854775808) (h₀ : 0 ≤ y) (h₁ : y < 16) : bits .or .i64 x y = x + y :=
  bits_join .i64 63 (by decide) wraps_i64 4 x y hx₀ hx hx₁ h₀ h₁ (by omega)
theorem i64_and63 (x : Int) (h₀ : 0 ≤ x) (h₁ : x < 9223372036854775808) : bits .and .i64 x 63 = x % 64 := bits_mask .i64 63 (by decide) wraps_i64 6 (by decide) x h₀ h₁
theorem getD_tx (t : ByteArray) (i : Nat) (h : i < t.size) : ((tx t).getD i 0) = t[i] := by
  have : i < (tx t).length := by rw [tx_length]; exact h
  rw [List.getD_eq_getElem?_getD, List.getElem?_eq_getElem this]
  rfl
theorem getD_tx0 (t : ByteArray) (i : Nat) (h : ¬ i < t.size) : ((tx t).getD i 0) = 0 := by
  have : ¬ i < (tx t).length := by rw [tx_length]; exact h
  rw [List.getD_eq_getElem?_getD, List.getElem?_eq_none (by omega)]
  rfl
end Go.Proofs.YtbgckolcimlofaaGreatDoor
