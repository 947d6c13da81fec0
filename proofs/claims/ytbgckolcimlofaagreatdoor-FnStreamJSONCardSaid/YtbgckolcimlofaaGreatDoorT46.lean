/-
  The parser: text, the whole; where the tables of utf8 are laid.
-/
import Derived.Test.YtbgckolcimlofaaGreatDoorProg
import Derived.Test.YtbgckolcimlofaaGreatDoorT44
import Derived.Test.YtbgckolcimlofaaGreatDoorT45
import Derived.Test.YtbgckolcimlofaaGreatDoorT41
set_option linter.unusedVariables false
set_option linter.unusedSimpArgs false
namespace Go.Proofs.YtbgckolcimlofaaGreatDoor
open Go.RowKit YtbgckolcimlofaaGreatDoorPj

theorem PackPost.get {q : P} {w w' : World} {j n : Nat} {s : ByteArray} {e : Ending} (h : PackPost q w j s n e w') : ∃ (k1 n1 e1 : Int) (t1 : ByteArray) (A : Option Addr) (l c : Nat),
    e = .returned (.agg #[.int .i64 k1, .int .u64 n1, .string t1, .int .i64 e1, .slice A l c]) ∧ Hid (IsPk w' (fun k => w.heap.size ≤ k) q [.int .i64 k1, .int .u64 n1, .string t1, .int .i64 e1, .slice A l c]) ∧ Hid (Moved w j s n w') := by
  obtain ⟨x0, x1, x2, x3, x4, rfl, h1, h2⟩ := h
  have h1' := h1
  cases h1 with
  | mk k n t e ks A cap cs => exact ⟨k, n, e, t, A, ks.length, cap, rfl, h1', h2⟩
theorem PackPost.sets {q : P} {w w1 : World} {j n : Nat} {s : ByteArray} {x0 x1 x2 x3 x4 : Value} (hj : j < w.heap.size) (h : IsPk w1 (fun k => w.heap.size + 1 ≤ k) q [x0, x1, x2, x3, x4]) (hm : Moved (w.alloc Z5) j s n w1) :
    IsPk (((((w1.setCell ⟨w.heap.size, 0, none⟩ x0).setCell ⟨w.heap.size, 1, none⟩ x1).setCell ⟨w.heap.size, 2, none⟩ x2).setCell ⟨w.heap.size, 3, none⟩ x3).setCell ⟨w.heap.size, 4, none⟩ x4) (fun k => w.heap.size ≤ k) q [x0, x1, x2, x3, x4] ∧
    Moved w j s n (((((w1.setCell ⟨w.heap.size, 0, none⟩ x0).setCell ⟨w.heap.size, 1, none⟩ x1).setCell ⟨w.heap.size, 2, none⟩ x2).setCell ⟨w.heap.size, 3, none⟩ x3).setCell ⟨w.heap.size, 4, none⟩ x4) ∧
    Five (((((w1.setCell ⟨w.heap.size, 0, none⟩ x0).setCell ⟨w.heap.size, 1, none⟩ x1).setCell ⟨w.heap.size, 2, none⟩ x2).setCell ⟨w.heap.size, 3, none⟩ x3).setCell ⟨w.heap.size, 4, none⟩ x4) w.heap.size x0 x1 x2 x3 x4 := by
  have hj0 : j ≠ w.heap.size := by omega
  refine ⟨?_, ⟨only_sets5 ((Only.alloc (Only.refl _ _) Z5).trans hm.1) _ _ _ _ _, hm.2.only (only_sets5' _ _ _ _ _ _ _) (fun e => hj0 e)⟩, ?_⟩
  · refine h.keep fun k hk hok => ⟨by omega, (only_sets5' w1 w.heap.size x0 x1 x2 x3 x4).block k hk (fun e => by have e : k = w.heap.size := e; omega)⟩
  · exact ((Five.new w (.int .i64 0) (.int .u64 0) (.string ⟨#[]⟩) (.int .i64 0) (.slice none 0 0) 25).only hm.1 (fun e => hj0 e.symm)).sets _ _ _ _ _
/-- What 'value' needs of the words that it looks for. -/
def WordAt (x : ByteArray) (y : Bool) (j : Nat) (s : ByteArray) (at_ n : Nat) : Prop := ∀ w, Jt w j s at_ → Calls Tryz.prog 35 #[.pointer (some ⟨j, 0, none⟩), .string x] w (EatPost y w j s n)
set_option maxRecDepth 100000 in
set_option maxHeartbeats 16000000 in
theorem value_null (w : World) (j : Nat) (s : ByteArray) (at_ lv : Nat) (h : Jt w j s at_) (hlv : 0 < lv) (hlv2 : lv ≤ 1000) (b : UInt8) (r : List UInt8) (ha : Ahead s at_ (b :: r)) (hb : NotBlank b) (n : Nat) (hw0 : WordAt ⟨#[110, 117, 108, 108]⟩ true j s at_ n) :
    Calls Tryz.prog 23 #[.pointer (some ⟨j, 0, none⟩), .int .i64 (lv : Nat)] w (PackPost (.mk 0 0 ⟨#[]⟩ 0 []) w j s n) := by
  obtain ⟨hl, hsb, -⟩ := ha.cons
  have HJ := hid h
  have hjl := h.lt
  have hbig := h.big
  have HB : Hid (Calls Tryz.prog 24 #[.pointer (some ⟨j, 0, none⟩)] (w.alloc Z5) (VoidPost (w.alloc Z5))) := hid (blank_b _ j s at_ (h.ne_new (w1 := w) Z5) b r ha hb)
  have HOK : Hid (∀ w1, Only (fun _ => False) (w.alloc Z5) w1 → Jt w1 j s at_) := hid fun w1 ho => (h.ne_new (w1 := w) Z5).only ho (fun h => h)
  have HF5 : Hid (∀ n v, Moved (w.alloc Z5) j s n v → Five v w.heap.size (.int .i64 0) (.int .u64 0) (.string ⟨#[]⟩) (.int .i64 0) (.slice none 0 0)) := hid fun n v hm => (Five.new w (.int .i64 0) (.int .u64 0) (.string ⟨#[]⟩) (.int .i64 0) (.slice none 0 0) 25).only hm.1 (fun e => by have e : w.heap.size = j := e; omega)
  have hx : (((s[at_]'hl).toNat : Nat) : Int) = (b.toNat : Int) := by rw [hsb]
  have d1 : decide ((s.size : Int) ≤ at_) = false := by simp; omega
  have d2 : (at_ : Int) < s.size := by omega
  have d3 : (0 : Int) ≤ at_ := by omega
  have d4 : decide ((lv : Int) ≤ 0) = false := by simp; omega
  have d5 : ¬ lv = 0 := by omega
  clear h ha hb hsb
  have HW0 := hid hw0
  clear hw0
  go_enter Tryz.func23, Tryz.ntmps23
  go_wp2_with (go_at_call 24; refine HB.out.mono ?_; rintro e w1 ⟨rfl, h1⟩; have H1 := hid h1; obtain ⟨c0, c1, c2, f1, -, -⟩ := HOK.out _ h1; clear h1)
  go_quiet (fail)
  go_wp2
  go_quiet (fail)
  obtain ⟨nq1, rfl⟩ : ∃ k, k = nq := ⟨nq, rfl⟩
  go_wp2_with (first
    | (go_at_call_of 35 (Value.string ⟨#[110, 117, 108, 108]⟩); refine (HW0.out _ (HOK.out _ (H1.out.drewN _))).mono ?_; rintro e v0 ⟨rfl, h1⟩; have M0 := hid h1; clear h1; obtain ⟨g0, g1, g2, g3, g4, p0, p1, p2, p3, p4⟩ := HF5.out _ _ ⟨(((H1.out.drewN _).mono fun _ _ h => h.elim).trans M0.out.1), M0.out.2⟩))
  have HS := PackPost.sets hjl (IsPk.leaf v0 (fun k => w.heap.size + 1 ≤ k) 0 0 ⟨#[]⟩ (by decide) (by decide) (by decide)) ⟨(((H1.out.drewN _).mono fun _ _ h => h.elim).trans M0.out.1), M0.out.2⟩
  refine bodyPost_ret (res_cell1 rfl rfl HS.2.2) rfl ?_
  exact ⟨_, _, _, _, _, rfl, HS.1, HS.2.1⟩
set_option maxRecDepth 100000 in
set_option maxHeartbeats 16000000 in
theorem value_true (w : World) (j : Nat) (s : ByteArray) (at_ lv : Nat) (h : Jt w j s at_) (hlv : 0 < lv) (hlv2 : lv ≤ 1000) (b : UInt8) (r : List UInt8) (ha : Ahead s at_ (b :: r)) (hb : NotBlank b) (n : Nat) (hw0 : WordAt ⟨#[110, 117, 108, 108]⟩ false j s at_ at_) (hw1 : WordAt ⟨#[116, 114, 117, 101]⟩ true j s at_ n) :
    Calls Tryz.prog 23 #[.pointer (some ⟨j, 0, none⟩), .int .i64 (lv : Nat)] w (PackPost (.mk 1 1 ⟨#[]⟩ 0 []) w j s n) := by
  obtain ⟨hl, hsb, -⟩ := ha.cons
  have HJ := hid h
  have hjl := h.lt
  have hbig := h.big
  have HB : Hid (Calls Tryz.prog 24 #[.pointer (some ⟨j, 0, none⟩)] (w.alloc Z5) (VoidPost (w.alloc Z5))) := hid (blank_b _ j s at_ (h.ne_new (w1 := w) Z5) b r ha hb)
  have HOK : Hid (∀ w1, Only (fun _ => False) (w.alloc Z5) w1 → Jt w1 j s at_) := hid fun w1 ho => (h.ne_new (w1 := w) Z5).only ho (fun h => h)
  have HF5 : Hid (∀ n v, Moved (w.alloc Z5) j s n v → Five v w.heap.size (.int .i64 0) (.int .u64 0) (.string ⟨#[]⟩) (.int .i64 0) (.slice none 0 0)) := hid fun n v hm => (Five.new w (.int .i64 0) (.int .u64 0) (.string ⟨#[]⟩) (.int .i64 0) (.slice none 0 0) 25).only hm.1 (fun e => by have e : w.heap.size = j := e; omega)
  have hx : (((s[at_]'hl).toNat : Nat) : Int) = (b.toNat : Int) := by rw [hsb]
  have d1 : decide ((s.size : Int) ≤ at_) = false := by simp; omega
  have d2 : (at_ : Int) < s.size := by omega
  have d3 : (0 : Int) ≤ at_ := by omega
  have d4 : decide ((lv : Int) ≤ 0) = false := by simp; omega
  have d5 : ¬ lv = 0 := by omega
  clear h ha hb hsb
  have HW0 := hid hw0
  clear hw0
  have HW1 := hid hw1
  clear hw1
  go_enter Tryz.func23, Tryz.ntmps23
  go_wp2_with (go_at_call 24; refine HB.out.mono ?_; rintro e w1 ⟨rfl, h1⟩; have H1 := hid h1; obtain ⟨c0, c1, c2, f1, -, -⟩ := HOK.out _ h1; clear h1)
  go_quiet (fail)
  go_wp2
  go_quiet (fail)
  obtain ⟨nq1, rfl⟩ : ∃ k, k = nq := ⟨nq, rfl⟩
  go_wp2_with (first
    | (go_at_call_of 35 (Value.string ⟨#[110, 117, 108, 108]⟩); refine (HW0.out _ (HOK.out _ (H1.out.drewN _))).mono ?_; rintro e v0 ⟨rfl, h1⟩; have M0 := hid h1; clear h1)
    | (go_at_call_of 35 (Value.string ⟨#[116, 114, 117, 101]⟩); refine (HW1.out _ (M0.out.2)).mono ?_; rintro e v1 ⟨rfl, h1⟩; have M1 := hid h1; clear h1; obtain ⟨g0, g1, g2, g3, g4, p0, p1, p2, p3, p4⟩ := HF5.out _ _ ⟨((((H1.out.drewN _).mono fun _ _ h => h.elim).trans M0.out.1).trans M1.out.1), M1.out.2⟩))
  have HS := PackPost.sets hjl (IsPk.leaf v1 (fun k => w.heap.size + 1 ≤ k) 1 1 ⟨#[]⟩ (by decide) (by decide) (by decide)) ⟨((((H1.out.drewN _).mono fun _ _ h => h.elim).trans M0.out.1).trans M1.out.1), M1.out.2⟩
  refine bodyPost_ret (res_cell1 rfl rfl HS.2.2) rfl ?_
  exact ⟨_, _, _, _, _, rfl, HS.1, HS.2.1⟩
set_option maxRecDepth 100000 in
set_option maxHeartbeats 16000000 in
theorem value_false (w : World) (j : Nat) (s : ByteArray) (at_ lv : Nat) (h : Jt w j s at_) (hlv : 0 < lv) (hlv2 : lv ≤ 1000) (b : UInt8) (r : List UInt8) (ha : Ahead s at_ (b :: r)) (hb : NotBlank b) (n : Nat) (hw0 : WordAt ⟨#[110, 117, 108, 108]⟩ false j s at_ at_) (hw1 : WordAt ⟨#[116, 114, 117, 101]⟩ false j s at_ at_) (hw2 : WordAt ⟨#[102, 97, 108, 115, 101]⟩ true j s at_ n) :
    Calls Tryz.prog 23 #[.pointer (some ⟨j, 0, none⟩), .int .i64 (lv : Nat)] w (PackPost (.mk 1 0 ⟨#[]⟩ 0 []) w j s n) := by
  obtain ⟨hl, hsb, -⟩ := ha.cons
  have HJ := hid h
  have hjl := h.lt
  have hbig := h.big
  have HB : Hid (Calls Tryz.prog 24 #[.pointer (some ⟨j, 0, none⟩)] (w.alloc Z5) (VoidPost (w.alloc Z5))) := hid (blank_b _ j s at_ (h.ne_new (w1 := w) Z5) b r ha hb)
  have HOK : Hid (∀ w1, Only (fun _ => False) (w.alloc Z5) w1 → Jt w1 j s at_) := hid fun w1 ho => (h.ne_new (w1 := w) Z5).only ho (fun h => h)
  have HF5 : Hid (∀ n v, Moved (w.alloc Z5) j s n v → Five v w.heap.size (.int .i64 0) (.int .u64 0) (.string ⟨#[]⟩) (.int .i64 0) (.slice none 0 0)) := hid fun n v hm => (Five.new w (.int .i64 0) (.int .u64 0) (.string ⟨#[]⟩) (.int .i64 0) (.slice none 0 0) 25).only hm.1 (fun e => by have e : w.heap.size = j := e; omega)
  have hx : (((s[at_]'hl).toNat : Nat) : Int) = (b.toNat : Int) := by rw [hsb]
  have d1 : decide ((s.size : Int) ≤ at_) = false := by simp; omega
  have d2 : (at_ : Int) < s.size := by omega
  have d3 : (0 : Int) ≤ at_ := by omega
  have d4 : decide ((lv : Int) ≤ 0) = false := by simp; omega
  have d5 : ¬ lv = 0 := by omega
  clear h ha hb hsb
  have HW0 := hid hw0
  clear hw0
  have HW1 := hid hw1
  clear hw1
  have HW2 := hid hw2
  clear hw2
  go_enter Tryz.func23, Tryz.ntmps23
  go_wp2_with (go_at_call 24; refine HB.out.mono ?_; rintro e w1 ⟨rfl, h1⟩; have H1 := hid h1; obtain ⟨c0, c1, c2, f1, -, -⟩ := HOK.out _ h1; clear h1)
  go_quiet (fail)
  go_wp2
  go_quiet (fail)
  obtain ⟨nq1, rfl⟩ : ∃ k, k = nq := ⟨nq, rfl⟩
  go_wp2_with (first
    | (go_at_call_of 35 (Value.string ⟨#[110, 117, 108, 108]⟩); refine (HW0.out _ (HOK.out _ (H1.out.drewN _))).mono ?_; rintro e v0 ⟨rfl, h1⟩; have M0 := hid h1; clear h1)
    | (go_at_call_of 35 (Value.string ⟨#[116, 114, 117, 101]⟩); refine (HW1.out _ (M0.out.2)).mono ?_; rintro e v1 ⟨rfl, h1⟩; have M1 := hid h1; clear h1)
    | (go_at_call_of 35 (Value.string ⟨#[102, 97, 108, 115, 101]⟩); refine (HW2.out _ (M1.out.2)).mono ?_; rintro e v2 ⟨rfl, h1⟩; have M2 := hid h1; clear h1; obtain ⟨g0, g1, g2, g3, g4, p0, p1, p2, p3, p4⟩ := HF5.out _ _ ⟨(((((H1.out.drewN _).mono fun _ _ h => h.elim).trans M0.out.1).trans M1.out.1).trans M2.out.1), M2.out.2⟩))
  have HS := PackPost.sets hjl (IsPk.leaf v2 (fun k => w.heap.size + 1 ≤ k) 1 0 ⟨#[]⟩ (by decide) (by decide) (by decide)) ⟨(((((H1.out.drewN _).mono fun _ _ h => h.elim).trans M0.out.1).trans M1.out.1).trans M2.out.1), M2.out.2⟩
  refine bodyPost_ret (res_cell1 rfl rfl HS.2.2) rfl ?_
  exact ⟨_, _, _, _, _, rfl, HS.1, HS.2.1⟩
set_option maxRecDepth 100000 in
set_option maxHeartbeats 16000000 in
theorem value_text (w : World) (j : Nat) (s : ByteArray) (at_ lv : Nat) (h : Jt w j s at_) (hlv : 0 < lv) (hlv2 : lv ≤ 1000) (b : UInt8) (r : List UInt8) (ha : Ahead s at_ (b :: r)) (hb : NotBlank b) (hw0 : WordAt ⟨#[110, 117, 108, 108]⟩ false j s at_ at_) (hw1 : WordAt ⟨#[116, 114, 117, 101]⟩ false j s at_ at_) (hw2 : WordAt ⟨#[102, 97, 108, 115, 101]⟩ false j s at_ at_) (t : List UInt8) (n : Nat) (hb34 : b.toNat = 34) (ht : t.length ≤ 9223372036854775807) (hcall : ∀ w1, Moved (w.alloc Z5) j s at_ w1 → Calls Tryz.prog 36 #[.pointer (some ⟨j, 0, none⟩)] w1 (TextPost t w1 j s n)) :
    Calls Tryz.prog 23 #[.pointer (some ⟨j, 0, none⟩), .int .i64 (lv : Nat)] w (PackPost (.mk 6 0 ⟨t.toArray⟩ 0 []) w j s n) := by
  obtain ⟨hl, hsb, -⟩ := ha.cons
  have HJ := hid h
  have hjl := h.lt
  have hbig := h.big
  have HB : Hid (Calls Tryz.prog 24 #[.pointer (some ⟨j, 0, none⟩)] (w.alloc Z5) (VoidPost (w.alloc Z5))) := hid (blank_b _ j s at_ (h.ne_new (w1 := w) Z5) b r ha hb)
  have HOK : Hid (∀ w1, Only (fun _ => False) (w.alloc Z5) w1 → Jt w1 j s at_) := hid fun w1 ho => (h.ne_new (w1 := w) Z5).only ho (fun h => h)
  have HF5 : Hid (∀ n v, Moved (w.alloc Z5) j s n v → Five v w.heap.size (.int .i64 0) (.int .u64 0) (.string ⟨#[]⟩) (.int .i64 0) (.slice none 0 0)) := hid fun n v hm => (Five.new w (.int .i64 0) (.int .u64 0) (.string ⟨#[]⟩) (.int .i64 0) (.slice none 0 0) 25).only hm.1 (fun e => by have e : w.heap.size = j := e; omega)
  have hx : (((s[at_]'hl).toNat : Nat) : Int) = (b.toNat : Int) := by rw [hsb]
  have d1 : decide ((s.size : Int) ≤ at_) = false := by simp; omega
  have d2 : (at_ : Int) < s.size := by omega
  have d3 : (0 : Int) ≤ at_ := by omega
  have d4 : decide ((lv : Int) ≤ 0) = false := by simp; omega
  have d5 : ¬ lv = 0 := by omega
  clear h ha hb hsb
  have HW0 := hid hw0
  clear hw0
  have HW1 := hid hw1
  clear hw1
  have HW2 := hid hw2
  clear hw2
  have HC := hid hcall
  have HT := hid ht
  clear hcall ht
  have hx34 : ((b.toNat : Int) == 34) = true := by simp [hb34]
  clear hb34
  go_enter Tryz.func23, Tryz.ntmps23
  go_wp2_with (go_at_call 24; refine HB.out.mono ?_; rintro e w1 ⟨rfl, h1⟩; have H1 := hid h1; obtain ⟨c0, c1, c2, f1, -, -⟩ := HOK.out _ h1; clear h1)
  go_quiet (fail)
  go_wp2
  go_quiet (fail)
  obtain ⟨nq1, rfl⟩ : ∃ k, k = nq := ⟨nq, rfl⟩
  go_wp2_with (first
    | (go_at_call_of 35 (Value.string ⟨#[110, 117, 108, 108]⟩); refine (HW0.out _ (HOK.out _ (H1.out.drewN _))).mono ?_; rintro e v0 ⟨rfl, h1⟩; have M0 := hid h1; clear h1)
    | (go_at_call_of 35 (Value.string ⟨#[116, 114, 117, 101]⟩); refine (HW1.out _ (M0.out.2)).mono ?_; rintro e v1 ⟨rfl, h1⟩; have M1 := hid h1; clear h1)
    | (go_at_call_of 35 (Value.string ⟨#[102, 97, 108, 115, 101]⟩); refine (HW2.out _ (M1.out.2)).mono ?_; rintro e v2 ⟨rfl, h1⟩; have M2 := hid h1; clear h1)
    | (go_at_call 36; refine (HC.out _ ⟨(((((H1.out.drewN _).mono fun _ _ h => h.elim).trans M0.out.1).trans M1.out.1).trans M2.out.1), M2.out.2⟩).mono ?_; rintro e v3 ⟨rfl, h1⟩; have M3 := hid h1; clear h1; obtain ⟨g0, g1, g2, g3, g4, p0, p1, p2, p3, p4⟩ := HF5.out _ _ ⟨((((((H1.out.drewN _).mono fun _ _ h => h.elim).trans M0.out.1).trans M1.out.1).trans M2.out.1).trans M3.out.1), M3.out.2⟩))
  have HS := PackPost.sets hjl (IsPk.leaf v3 (fun k => w.heap.size + 1 ≤ k) 6 0 ⟨t.toArray⟩ (by decide) (by decide) (by have := HT.out; show t.toArray.size ≤ _; simpa using this)) ⟨((((((H1.out.drewN _).mono fun _ _ h => h.elim).trans M0.out.1).trans M1.out.1).trans M2.out.1).trans M3.out.1), M3.out.2⟩
  refine bodyPost_ret (res_cell1 rfl rfl HS.2.2) rfl ?_
  exact ⟨_, _, _, _, _, rfl, HS.1, HS.2.1⟩
set_option maxRecDepth 100000 in
set_option maxHeartbeats 16000000 in
theorem value_arr (w : World) (j : Nat) (s : ByteArray) (at_ lv : Nat) (h : Jt w j s at_) (hlv : 0 < lv) (hlv2 : lv ≤ 1000) (b : UInt8) (r : List UInt8) (ha : Ahead s at_ (b :: r)) (hb : NotBlank b) (hw0 : WordAt ⟨#[110, 117, 108, 108]⟩ false j s at_ at_) (hw1 : WordAt ⟨#[116, 114, 117, 101]⟩ false j s at_ at_) (hw2 : WordAt ⟨#[102, 97, 108, 115, 101]⟩ false j s at_ at_) (q : P) (n : Nat) (hbk : b.toNat = 91) (hcall : ∀ w1, Moved (w.alloc Z5) j s at_ w1 → Calls Tryz.prog 37 #[.pointer (some ⟨j, 0, none⟩), .int .i64 8, .int .u8 93, .int .i64 (lv : Nat)] w1 (PackPost q w1 j s n)) :
    Calls Tryz.prog 23 #[.pointer (some ⟨j, 0, none⟩), .int .i64 (lv : Nat)] w (PackPost q w j s n) := by
  obtain ⟨hl, hsb, -⟩ := ha.cons
  have HJ := hid h
  have hjl := h.lt
  have hbig := h.big
  have HB : Hid (Calls Tryz.prog 24 #[.pointer (some ⟨j, 0, none⟩)] (w.alloc Z5) (VoidPost (w.alloc Z5))) := hid (blank_b _ j s at_ (h.ne_new (w1 := w) Z5) b r ha hb)
  have HOK : Hid (∀ w1, Only (fun _ => False) (w.alloc Z5) w1 → Jt w1 j s at_) := hid fun w1 ho => (h.ne_new (w1 := w) Z5).only ho (fun h => h)
  have HF5 : Hid (∀ n v, Moved (w.alloc Z5) j s n v → Five v w.heap.size (.int .i64 0) (.int .u64 0) (.string ⟨#[]⟩) (.int .i64 0) (.slice none 0 0)) := hid fun n v hm => (Five.new w (.int .i64 0) (.int .u64 0) (.string ⟨#[]⟩) (.int .i64 0) (.slice none 0 0) 25).only hm.1 (fun e => by have e : w.heap.size = j := e; omega)
  have hx : (((s[at_]'hl).toNat : Nat) : Int) = (b.toNat : Int) := by rw [hsb]
  have d1 : decide ((s.size : Int) ≤ at_) = false := by simp; omega
  have d2 : (at_ : Int) < s.size := by omega
  have d3 : (0 : Int) ≤ at_ := by omega
  have d4 : decide ((lv : Int) ≤ 0) = false := by simp; omega
  have d5 : ¬ lv = 0 := by omega
  clear h ha hb hsb
  have HW0 := hid hw0
  clear hw0
  have HW1 := hid hw1
  clear hw1
  have HW2 := hid hw2
  clear hw2
  have HC := hid hcall
  clear hcall
  have hx34 : ((b.toNat : Int) == 34) = false := by simp [hbk]
  have hx91 : ((b.toNat : Int) == 91) = true := by simp [hbk]
  clear hbk
  go_enter Tryz.func23, Tryz.ntmps23
  go_wp2_with (go_at_call 24; refine HB.out.mono ?_; rintro e w1 ⟨rfl, h1⟩; have H1 := hid h1; obtain ⟨c0, c1, c2, f1, -, -⟩ := HOK.out _ h1; clear h1)
  go_quiet (fail)
  go_wp2
  go_quiet (fail)
  obtain ⟨nq1, rfl⟩ : ∃ k, k = nq := ⟨nq, rfl⟩
  go_wp2_with (first
    | (go_at_call_of 35 (Value.string ⟨#[110, 117, 108, 108]⟩); refine (HW0.out _ (HOK.out _ (H1.out.drewN _))).mono ?_; rintro e v0 ⟨rfl, h1⟩; have M0 := hid h1; clear h1)
    | (go_at_call_of 35 (Value.string ⟨#[116, 114, 117, 101]⟩); refine (HW1.out _ (M0.out.2)).mono ?_; rintro e v1 ⟨rfl, h1⟩; have M1 := hid h1; clear h1)
    | (go_at_call_of 35 (Value.string ⟨#[102, 97, 108, 115, 101]⟩); refine (HW2.out _ (M1.out.2)).mono ?_; rintro e v2 ⟨rfl, h1⟩; have M2 := hid h1; clear h1)
    | (go_at_call 37; refine (HC.out _ ⟨(((((H1.out.drewN _).mono fun _ _ h => h.elim).trans M0.out.1).trans M1.out.1).trans M2.out.1), M2.out.2⟩).mono ?_; intro e v3 hp; obtain ⟨k1, n1, e1, t1, A1, l1, cc1, rfl, HQ, M3⟩ := hp.get; clear hp; obtain ⟨g0, g1, g2, g3, g4, p0, p1, p2, p3, p4⟩ := HF5.out _ _ ⟨((((((H1.out.drewN _).mono fun _ _ h => h.elim).trans M0.out.1).trans M1.out.1).trans M2.out.1).trans M3.out.1), M3.out.2⟩))
  have HP := IsPk.keep HQ.out (ok' := fun k => w.heap.size + 1 ≤ k) fun k hk hok => ⟨by have := ((((((H1.out.drewN _).mono fun _ _ h => h.elim).trans M0.out.1).trans M1.out.1).trans M2.out.1)).size; simp at this; omega, rfl⟩
  have HS := PackPost.sets hjl HP ⟨((((((H1.out.drewN _).mono fun _ _ h => h.elim).trans M0.out.1).trans M1.out.1).trans M2.out.1).trans M3.out.1), M3.out.2⟩
  refine bodyPost_ret (res_cell1 rfl rfl HS.2.2) rfl ?_
  exact ⟨_, _, _, _, _, rfl, HS.1, HS.2.1⟩
set_option maxRecDepth 100000 in
set_option maxHeartbeats 16000000 in
theorem value_map (w : World) (j : Nat) (s : ByteArray) (at_ lv : Nat) (h : Jt w j s at_) (hlv : 0 < lv) (hlv2 : lv ≤ 1000) (b : UInt8) (r : List UInt8) (ha : Ahead s at_ (b :: r)) (hb : NotBlank b) (hw0 : WordAt ⟨#[110, 117, 108, 108]⟩ false j s at_ at_) (hw1 : WordAt ⟨#[116, 114, 117, 101]⟩ false j s at_ at_) (hw2 : WordAt ⟨#[102, 97, 108, 115, 101]⟩ false j s at_ at_) (q : P) (n : Nat) (hbk : b.toNat = 123) (hcall : ∀ w1, Moved (w.alloc Z5) j s at_ w1 → Calls Tryz.prog 37 #[.pointer (some ⟨j, 0, none⟩), .int .i64 9, .int .u8 125, .int .i64 (lv : Nat)] w1 (PackPost q w1 j s n)) :
    Calls Tryz.prog 23 #[.pointer (some ⟨j, 0, none⟩), .int .i64 (lv : Nat)] w (PackPost q w j s n) := by
  obtain ⟨hl, hsb, -⟩ := ha.cons
  have HJ := hid h
  have hjl := h.lt
  have hbig := h.big
  have HB : Hid (Calls Tryz.prog 24 #[.pointer (some ⟨j, 0, none⟩)] (w.alloc Z5) (VoidPost (w.alloc Z5))) := hid (blank_b _ j s at_ (h.ne_new (w1 := w) Z5) b r ha hb)
  have HOK : Hid (∀ w1, Only (fun _ => False) (w.alloc Z5) w1 → Jt w1 j s at_) := hid fun w1 ho => (h.ne_new (w1 := w) Z5).only ho (fun h => h)
  have HF5 : Hid (∀ n v, Moved (w.alloc Z5) j s n v → Five v w.heap.size (.int .i64 0) (.int .u64 0) (.string ⟨#[]⟩) (.int .i64 0) (.slice none 0 0)) := hid fun n v hm => (Five.new w (.int .i64 0) (.int .u64 0) (.string ⟨#[]⟩) (.int .i64 0) (.slice none 0 0) 25).only hm.1 (fun e => by have e : w.heap.size = j := e; omega)
  have hx : (((s[at_]'hl).toNat : Nat) : Int) = (b.toNat : Int) := by rw [hsb]
  have d1 : decide ((s.size : Int) ≤ at_) = false := by simp; omega
  have d2 : (at_ : Int) < s.size := by omega
  have d3 : (0 : Int) ≤ at_ := by omega
  have d4 : decide ((lv : Int) ≤ 0) = false := by simp; omega
  have d5 : ¬ lv = 0 := by omega
  clear h ha hb hsb
  have HW0 := hid hw0
  clear hw0
  have HW1 := hid hw1
  clear hw1
  have HW2 := hid hw2
  clear hw2
  have HC := hid hcall
  clear hcall
  have hx34 : ((b.toNat : Int) == 34) = false := by simp [hbk]
  have hx91 : ((b.toNat : Int) == 91) = false := by simp [hbk]
  have hx123 : ((b.toNat : Int) == 123) = true := by simp [hbk]
  clear hbk
  go_enter Tryz.func23, Tryz.ntmps23
  go_wp2_with (go_at_call 24; refine HB.out.mono ?_; rintro e w1 ⟨rfl, h1⟩; have H1 := hid h1; obtain ⟨c0, c1, c2, f1, -, -⟩ := HOK.out _ h1; clear h1)
  go_quiet (fail)
  go_wp2
  go_quiet (fail)
  obtain ⟨nq1, rfl⟩ : ∃ k, k = nq := ⟨nq, rfl⟩
  go_wp2_with (first
    | (go_at_call_of 35 (Value.string ⟨#[110, 117, 108, 108]⟩); refine (HW0.out _ (HOK.out _ (H1.out.drewN _))).mono ?_; rintro e v0 ⟨rfl, h1⟩; have M0 := hid h1; clear h1)
    | (go_at_call_of 35 (Value.string ⟨#[116, 114, 117, 101]⟩); refine (HW1.out _ (M0.out.2)).mono ?_; rintro e v1 ⟨rfl, h1⟩; have M1 := hid h1; clear h1)
    | (go_at_call_of 35 (Value.string ⟨#[102, 97, 108, 115, 101]⟩); refine (HW2.out _ (M1.out.2)).mono ?_; rintro e v2 ⟨rfl, h1⟩; have M2 := hid h1; clear h1)
    | (go_at_call 37; refine (HC.out _ ⟨(((((H1.out.drewN _).mono fun _ _ h => h.elim).trans M0.out.1).trans M1.out.1).trans M2.out.1), M2.out.2⟩).mono ?_; intro e v3 hp; obtain ⟨k1, n1, e1, t1, A1, l1, cc1, rfl, HQ, M3⟩ := hp.get; clear hp; obtain ⟨g0, g1, g2, g3, g4, p0, p1, p2, p3, p4⟩ := HF5.out _ _ ⟨((((((H1.out.drewN _).mono fun _ _ h => h.elim).trans M0.out.1).trans M1.out.1).trans M2.out.1).trans M3.out.1), M3.out.2⟩))
  have HP := IsPk.keep HQ.out (ok' := fun k => w.heap.size + 1 ≤ k) fun k hk hok => ⟨by have := ((((((H1.out.drewN _).mono fun _ _ h => h.elim).trans M0.out.1).trans M1.out.1).trans M2.out.1)).size; simp at this; omega, rfl⟩
  have HS := PackPost.sets hjl HP ⟨((((((H1.out.drewN _).mono fun _ _ h => h.elim).trans M0.out.1).trans M1.out.1).trans M2.out.1).trans M3.out.1), M3.out.2⟩
  refine bodyPost_ret (res_cell1 rfl rfl HS.2.2) rfl ?_
  exact ⟨_, _, _, _, _, rfl, HS.1, HS.2.1⟩
set_option maxRecDepth 100000 in
set_option maxHeartbeats 16000000 in
theorem value_num (w : World) (j : Nat) (s : ByteArray) (at_ lv : Nat) (h : Jt w j s at_) (hlv : 0 < lv) (hlv2 : lv ≤ 1000) (b : UInt8) (r : List UInt8) (ha : Ahead s at_ (b :: r)) (hb : NotBlank b) (hw0 : WordAt ⟨#[110, 117, 108, 108]⟩ false j s at_ at_) (hw1 : WordAt ⟨#[116, 114, 117, 101]⟩ false j s at_ at_) (hw2 : WordAt ⟨#[102, 97, 108, 115, 101]⟩ false j s at_ at_) (q : P) (n : Nat) (hb1 : b.toNat ≠ 34) (hb2 : b.toNat ≠ 91) (hb3 : b.toNat ≠ 123) (hcall : ∀ w1, Moved (w.alloc Z5) j s at_ w1 → Calls Tryz.prog 38 #[.pointer (some ⟨j, 0, none⟩)] w1 (PackPost q w1 j s n)) :
    Calls Tryz.prog 23 #[.pointer (some ⟨j, 0, none⟩), .int .i64 (lv : Nat)] w (PackPost q w j s n) := by
  obtain ⟨hl, hsb, -⟩ := ha.cons
  have HJ := hid h
  have hjl := h.lt
  have hbig := h.big
  have HB : Hid (Calls Tryz.prog 24 #[.pointer (some ⟨j, 0, none⟩)] (w.alloc Z5) (VoidPost (w.alloc Z5))) := hid (blank_b _ j s at_ (h.ne_new (w1 := w) Z5) b r ha hb)
  have HOK : Hid (∀ w1, Only (fun _ => False) (w.alloc Z5) w1 → Jt w1 j s at_) := hid fun w1 ho => (h.ne_new (w1 := w) Z5).only ho (fun h => h)
  have HF5 : Hid (∀ n v, Moved (w.alloc Z5) j s n v → Five v w.heap.size (.int .i64 0) (.int .u64 0) (.string ⟨#[]⟩) (.int .i64 0) (.slice none 0 0)) := hid fun n v hm => (Five.new w (.int .i64 0) (.int .u64 0) (.string ⟨#[]⟩) (.int .i64 0) (.slice none 0 0) 25).only hm.1 (fun e => by have e : w.heap.size = j := e; omega)
  have hx : (((s[at_]'hl).toNat : Nat) : Int) = (b.toNat : Int) := by rw [hsb]
  have d1 : decide ((s.size : Int) ≤ at_) = false := by simp; omega
  have d2 : (at_ : Int) < s.size := by omega
  have d3 : (0 : Int) ≤ at_ := by omega
  have d4 : decide ((lv : Int) ≤ 0) = false := by simp; omega
  have d5 : ¬ lv = 0 := by omega
  clear h ha hb hsb
  have HW0 := hid hw0
  clear hw0
  have HW1 := hid hw1
  clear hw1
  have HW2 := hid hw2
  clear hw2
  have HC := hid hcall
  clear hcall
  have hx34 : ((b.toNat : Int) == 34) = false := by simp; omega
  have hx91 : ((b.toNat : Int) == 91) = false := by simp; omega
  have hx123 : ((b.toNat : Int) == 123) = false := by simp; omega
  clear hb1 hb2 hb3
  go_enter Tryz.func23, Tryz.ntmps23
  go_wp2_with (go_at_call 24; refine HB.out.mono ?_; rintro e w1 ⟨rfl, h1⟩; have H1 := hid h1; obtain ⟨c0, c1, c2, f1, -, -⟩ := HOK.out _ h1; clear h1)
  go_quiet (fail)
  go_wp2
  go_quiet (fail)
  obtain ⟨nq1, rfl⟩ : ∃ k, k = nq := ⟨nq, rfl⟩
  go_wp2_with (first
    | (go_at_call_of 35 (Value.string ⟨#[110, 117, 108, 108]⟩); refine (HW0.out _ (HOK.out _ (H1.out.drewN _))).mono ?_; rintro e v0 ⟨rfl, h1⟩; have M0 := hid h1; clear h1)
    | (go_at_call_of 35 (Value.string ⟨#[116, 114, 117, 101]⟩); refine (HW1.out _ (M0.out.2)).mono ?_; rintro e v1 ⟨rfl, h1⟩; have M1 := hid h1; clear h1)
    | (go_at_call_of 35 (Value.string ⟨#[102, 97, 108, 115, 101]⟩); refine (HW2.out _ (M1.out.2)).mono ?_; rintro e v2 ⟨rfl, h1⟩; have M2 := hid h1; clear h1)
    | (go_at_call 38; refine (HC.out _ ⟨(((((H1.out.drewN _).mono fun _ _ h => h.elim).trans M0.out.1).trans M1.out.1).trans M2.out.1), M2.out.2⟩).mono ?_; intro e v3 hp; obtain ⟨k1, n1, e1, t1, A1, l1, cc1, rfl, HQ, M3⟩ := hp.get; clear hp; obtain ⟨g0, g1, g2, g3, g4, p0, p1, p2, p3, p4⟩ := HF5.out _ _ ⟨((((((H1.out.drewN _).mono fun _ _ h => h.elim).trans M0.out.1).trans M1.out.1).trans M2.out.1).trans M3.out.1), M3.out.2⟩))
  have HP := IsPk.keep HQ.out (ok' := fun k => w.heap.size + 1 ≤ k) fun k hk hok => ⟨by have := ((((((H1.out.drewN _).mono fun _ _ h => h.elim).trans M0.out.1).trans M1.out.1).trans M2.out.1)).size; simp at this; omega, rfl⟩
  have HS := PackPost.sets hjl HP ⟨((((((H1.out.drewN _).mono fun _ _ h => h.elim).trans M0.out.1).trans M1.out.1).trans M2.out.1).trans M3.out.1), M3.out.2⟩
  refine bodyPost_ret (res_cell1 rfl rfl HS.2.2) rfl ?_
  exact ⟨_, _, _, _, _, rfl, HS.1, HS.2.1⟩
end Go.Proofs.YtbgckolcimlofaaGreatDoor
