/-
  The parser: value, by the first byte; where the text is that of a value.
-/
import Derived.Test.YtbgckolcimlofaaGreatDoorProg
import Derived.Test.YtbgckolcimlofaaGreatDoorT47
set_option linter.unusedVariables false
set_option linter.unusedSimpArgs false
namespace Go.Proofs.YtbgckolcimlofaaGreatDoor
open Go.RowKit YtbgckolcimlofaaGreatDoorPj

theorem ahead_cons_of {s : ByteArray} {at_ : Nat} {l m : List UInt8} (h : Ahead s at_ l) (e : l = m) : Ahead s at_ m := e ▸ h
theorem noDig_app (b : UInt8) (l r : List UInt8) (hb : b.toNat < 48 ∨ 57 < b.toNat) (hl : ∀ c l', l = c :: l' → c.toNat < 48 ∨ 57 < c.toNat) : NoDig (l ++ b :: r) := by
  intro c r' e
  cases l with
  | nil => injection e with e _; exact e ▸ hb
  | cons d l' => injection e with e _; exact e ▸ hl d l' rfl
theorem jsArrT_first (l : List P) : ∀ c l', jsArrT l = c :: l' → c.toNat < 48 ∨ 57 < c.toNat := by
  intro c l' e
  cases l with
  | nil => rw [jsArrT_nil] at e; cases e
  | cons p r => rw [jsArrT_cons] at e; injection e with e _; subst e; exact Or.inl (by decide)
theorem jsMapT_first (l : List P) : ∀ c l', jsMapT l = c :: l' → c.toNat < 48 ∨ 57 < c.toNat := by
  intro c l' e
  match l with
  | [] => rw [jsMapT_nil] at e; cases e
  | [_] => rw [jsMapT] at e; cases e
  | p :: q :: r => rw [jsMapT_cons] at e; injection e with e _; subst e; exact Or.inl (by decide)
theorem starts_nb {b : UInt8} (h : Starts b) : NotBlank b := ⟨h.1, h.2.1, h.2.2.1, h.2.2.2.1⟩
def L2 (w : World) (j : Nat) (kd : Int) (z : Int) : World := ((w.setCell ⟨j, 1, none⟩ (.int .i64 z)).alloc Z5).alloc (.cells #[.int .i64 kd, .int .u64 0, .string ⟨#[]⟩, .int .i64 0, .slice none 0 0] 25)
theorem LState.start {w : World} {j : Nat} {s : ByteArray} {at_ : Nat} (h : Jt w j s at_) (hT : Lib.Utf8Tabs 1 2 w) (kd : Int) (hl : at_ < s.size) {z : Int} (hz : z = (at_ : Int) + 1) : LState w j s kd (L2 w j kd z) (at_ + 1) (.slice none 0 0) [] := by
  have hj := h.lt
  have hm := Moved.set h (Only.refl (fun _ => False) w) (at_ + 1) hl (z := z) (by omega)
  have hsz : (w.setCell ⟨j, 1, none⟩ (.int .i64 z)).heap.size = w.heap.size := by simp
  unfold L2
  generalize w.setCell ⟨j, 1, none⟩ (.int .i64 z) = ws at hm hsz
  have ha : Only (fun _ => False) ws ((ws.alloc Z5).alloc (.cells #[.int .i64 kd, .int .u64 0, .string ⟨#[]⟩, .int .i64 0, .slice none 0 0] 25)) := Only.alloc (Only.alloc (Only.refl _ _) _) _
  have h3 := hm.1.trans (ha.mono fun _ _ e => e.elim)
  refine ⟨h3, hm.2.only ha (fun e => e), ?_, ?_, PRow.nil _ _ _, tabs_j hT h h3⟩
  · have := (Five.new ws (.int .i64 0) (.int .u64 0) (.string ⟨#[]⟩) (.int .i64 0) (.slice none 0 0) 25).only (Only.alloc (Only.refl (fun _ => False) _) (.cells #[.int .i64 kd, .int .u64 0, .string ⟨#[]⟩, .int .i64 0, .slice none 0 0] 25)) (fun e => e)
    rw [hsz] at this
    exact this
  · have := Five.new (ws.alloc Z5) (.int .i64 kd) (.int .u64 0) (.string ⟨#[]⟩) (.int .i64 0) (.slice none 0 0) 25
    rw [Only.size_alloc, hsz] at this
    exact this
/-- The list is done. -/
theorem LState.done {w : World} {j : Nat} {s : ByteArray} {kd : Int} {wr : World} {at_ : Nat} {A : Option Addr} {n c : Nat} {ps : List P} (h : LState w j s kd wr at_ (.slice A n c) ps) (hj : j < w.heap.size) (hl : ps.length ≤ 1000000) (hn : ps.length = n) :
    PackPost (.mk kd 0 ⟨#[]⟩ 0 ps) w j s at_ (.returned (.agg #[.int .i64 kd, .int .u64 0, .string ⟨#[]⟩, .int .i64 0, .slice A n c])) (((((wr.setCell ⟨w.heap.size, 0, none⟩ (.int .i64 kd)).setCell ⟨w.heap.size, 1, none⟩ (.int .u64 0)).setCell ⟨w.heap.size, 2, none⟩ (.string ⟨#[]⟩)).setCell ⟨w.heap.size, 3, none⟩ (.int .i64 0)).setCell ⟨w.heap.size, 4, none⟩ (.slice A n c)) ∧
    Five (((((wr.setCell ⟨w.heap.size, 0, none⟩ (.int .i64 kd)).setCell ⟨w.heap.size, 1, none⟩ (.int .u64 0)).setCell ⟨w.heap.size, 2, none⟩ (.string ⟨#[]⟩)).setCell ⟨w.heap.size, 3, none⟩ (.int .i64 0)).setCell ⟨w.heap.size, 4, none⟩ (.slice A n c)) w.heap.size (.int .i64 kd) (.int .u64 0) (.string ⟨#[]⟩) (.int .i64 0) (.slice A n c) := by
  subst hn
  refine ⟨⟨_, _, _, _, _, rfl, ?_, only_sets5 h.only _ _ _ _ _, h.jt.only (only_sets5' _ _ _ _ _ _ _) (fun e => by have e : j = w.heap.size := e; omega)⟩, h.r5.sets _ _ _ _ _⟩
  exact (h.row.pk kd 0 0 ⟨#[]⟩ (by decide) (by decide) (by decide) (by omega)).keep fun k hk hok => ⟨by omega, (only_sets5' wr w.heap.size _ _ _ _ _).block k hk (fun e => by have e : k = w.heap.size := e; omega)⟩
set_option maxRecDepth 100000 in
set_option maxHeartbeats 16000000 in
theorem list_arr (lv : Nat) (ks : List P) (ih : ∀ q ∈ ks, ValAt lv q) (hfew : ks.length ≤ 2000) (hlv : lv ≤ 1000) (w : World) (j : Nat) (s : ByteArray) (at_ : Nat) (h : Jt w j s at_) (post : List UInt8) (ha : Ahead s at_ (91 :: (jsArr ks ++ 93 :: post))) (hT : Lib.Utf8Tabs 1 2 w) :
    Calls Tryz.prog 37 #[.pointer (some ⟨j, 0, none⟩), .int .i64 8, .int .u8 93, .int .i64 ((lv + 1 : Nat) : Int)] w (PackPost (.mk 8 0 ⟨#[]⟩ 0 (ks.map rd)) w j s (at_ + (jsArr ks).length + 2)) := by
  obtain ⟨hl, hsb, ha1⟩ := ha.cons
  have hjl := h.lt
  obtain ⟨c0, c1, c2, f1, le, big⟩ := h
  have HS0 : Hid (∀ {z : Int}, z = (at_ : Int) + 1 → LState w j s 8 (L2 w j 8 z) (at_ + 1) (.slice none 0 0) []) := hid fun hz => LState.start ⟨c0, c1, c2, f1, le, big⟩ hT 8 hl hz
  have HA1 := hid ha1
  have HIH := hid ih
  have HFEW := hid hfew
  have hww : IntKind.i64.wrap (lv : Int) = (lv : Int) := IntWalk.i64_in _ (by omega)
  clear hsb ha ha1 hT ih hfew
  cases ks with
  | nil =>
    have HE : Hid (∀ w1, Jt w1 j s (at_ + 1) → Calls Tryz.prog 44 #[.pointer (some ⟨j, 0, none⟩), .int .u8 93] w1 (EatPost true w1 j s (at_ + 1 + 1))) := hid fun w1 h1 => eat_yes w1 j s (at_ + 1) h1 93 post (by have := HA1.out; rw [jsArr_nil] at this; exact this) (by unfold NotBlank; decide)
    go_enter Tryz.func37, Tryz.ntmps37
    go_wp2_with (go_at_call 44; refine (HE.out _ (HS0.out rfl).jt).mono ?_; rintro e w1 ⟨rfl, h1⟩; have hls := (HS0.out rfl).moved hjl h1; have H1 := hid hls; obtain ⟨g0, g1, g2, g3, g4, p0, p1, p2, p3, p4⟩ := hls.r5; obtain ⟨v0, v1, v2, v3, v4, q0, q1, q2, q3, q4⟩ := hls.v5; clear h1 hls)
    have hd := H1.out.done hjl (by simp) rfl
    refine bodyPost_ret (res_cell1 rfl rfl hd.2) rfl ?_
    have e : at_ + (jsArr []).length + 2 = at_ + 1 + 1 := by rw [jsArr_nil]; simp
    rw [e]
    exact hd.1
  | cons p0 rest0 =>
    obtain ⟨b0, r0, hb0, hst⟩ := js_start p0
    have HE : Hid (∀ w1, Jt w1 j s (at_ + 1) → Calls Tryz.prog 44 #[.pointer (some ⟨j, 0, none⟩), .int .u8 93] w1 (EatPost false w1 j s (at_ + 1))) := hid fun w1 h1 => eat_no_b w1 j s (at_ + 1) h1 b0 93 _ (by have := HA1.out; rw [jsArr_cons, hb0] at this; exact this) (starts_nb hst) (by have := hst.2.2.2.2.1; exact this)
    clear hst hb0
    go_enter Tryz.func37, Tryz.ntmps37
    go_wp2_with (go_at_call 44; refine (HE.out _ (HS0.out rfl).jt).mono ?_; rintro e w1 ⟨rfl, h1⟩; have H1 := hid ((HS0.out rfl).moved hjl h1); clear h1)
    go_loopg [] (rest0.length + 1) (fun gm wr => ∃ (done : List P) (p : P) (rest : List P) (atq : Nat) (A : Option Addr) (n c : Nat), Hid (p0 :: rest0 = done ++ p :: rest) ∧ Hid (Ahead s atq (js p ++ (jsArrT rest ++ 93 :: post))) ∧ Hid (LState w j s 8 wr atq (.slice A n c) (done.map rd)) ∧ rest.length + 1 = gm ∧ atq + (js p).length + (jsArrT rest).length = at_ + 1 + (jsArr (p0 :: rest0)).length)
    case atStart => exact ⟨[], p0, rest0, at_ + 1, none, 0, 0, hid rfl, hid (by have := HA1.out; rw [jsArr_cons, List.append_assoc] at this; exact this), H1, rfl, by rw [jsArr_cons, List.length_append]; omega⟩
    case round =>
      clear HE HS0 H1 c0 c1 c2 f1 le hl
      obtain ⟨done, p, rest, atq, A, n, c, HKS, HA, HL, hgm, hat⟩ := hrel
      have HCALL : Hid (∀ w1, LState w j s 8 w1 atq (.slice A n c) (done.map rd) → Calls Tryz.prog 23 #[.pointer (some ⟨j, 0, none⟩), .int .i64 (lv : Nat)] w1 (PackPost (rd p) w1 j s (atq + (js p).length))) := hid fun w1 h1 => by
        refine HIH.out p (by rw [HKS.out]; simp) w1 j s atq _ h1.jt HA.out ?_ h1.tabs
        exact noDig_app 93 _ _ (Or.inr (by decide)) (jsArrT_first rest)
      have hdl : (done.map rd).length + 1 ≤ 1000000 := by
        have h1 : (p0 :: rest0).length = (done ++ p :: rest).length := by rw [HKS.out]
        have := HFEW.out
        simp at h1 this ⊢
        omega
      obtain ⟨c0, c1, c2, f1, le, -⟩ := HL.out.jt
      obtain ⟨v0, v1, v2, v3, v4, q0, q1, q2, q3, q4⟩ := HL.out.v5
      have HN : Hid ((done.map rd).length = n) := hid (by obtain ⟨_, _, e⟩ := HL.out.row.open; injection e with _ e _; exact e.symm)
      rcases hrs : rest with _ | ⟨pn, rest2⟩
      · subst hrs
        have HEY : Hid (∀ w1, Jt w1 j s (atq + (js p).length) → Calls Tryz.prog 44 #[.pointer (some ⟨j, 0, none⟩), .int .u8 93] w1 (EatPost true w1 j s (atq + (js p).length + 1))) := hid fun w1 h1 => eat_yes w1 j s _ h1 93 post (by have := Ahead.app _ HA.out; rw [jsArrT_nil] at this; exact this) (by unfold NotBlank; decide)
        go_wp2_with fail
        refine wp_region_ahd 8 (fun w' => w'.cell? ⟨w.heap.size + 1, 4, none⟩ = some (.slice A n c)) (by kernel_rfl) ⟨by kernel_rfl, by kernel_rfl, by kernel_rfl, by kernel_rfl⟩ (by go_simp) ?_
        intro hS0 ok
        have OK := hid ok
        clear ok
        refine AhdI.take (i := 0) (v := ?_) OK.out (by simp only [List.getElem?_toArray, List.getElem?_cons_succ, List.getElem?_cons_zero]; rfl) (by simp) (by kernel_rfl) (by kernel_rfl) (by exact fun _ _ _ h => h) hS0 (Or.inl ⟨by rfl, ?_⟩) ?_
        rotate_left 1
        · intro w3 hSw
          have hSw : w3.cell? ⟨w.heap.size + 1, 4, none⟩ = some (.slice A n c) := hSw
          go_simp
          try with_reducible rfl
        try simp only [Act.put, List.setIfInBounds_toArray, List.set_cons_zero, List.set_cons_succ]
        refine AhdI.take (i := 1) (v := ?_) OK.out (by simp only [List.getElem?_toArray, List.getElem?_cons_succ, List.getElem?_cons_zero]; rfl) (by simp) (by kernel_rfl) (by kernel_rfl) (by exact fun _ _ _ h => h) hS0 (Or.inl ⟨by rfl, ?_⟩) ?_
        rotate_left 1
        · intro w3 hSw
          have hSw : w3.cell? ⟨w.heap.size + 1, 4, none⟩ = some (.slice A n c) := hSw
          go_simp
          try with_reducible rfl
        try simp only [Act.put, List.setIfInBounds_toArray, List.set_cons_zero, List.set_cons_succ]
        refine AhdI.take (i := 2) (v := ?_) OK.out (by simp only [List.getElem?_toArray, List.getElem?_cons_succ, List.getElem?_cons_zero]; rfl) (by simp) (by kernel_rfl) (by kernel_rfl) (by exact fun _ _ _ h => h) hS0 (Or.inl ⟨by rfl, ?_⟩) ?_
        rotate_left 1
        · intro w3 hSw
          have hSw : w3.cell? ⟨w.heap.size + 1, 4, none⟩ = some (.slice A n c) := hSw
          go_simp
          try with_reducible rfl
        try simp only [Act.put, List.setIfInBounds_toArray, List.set_cons_zero, List.set_cons_succ]
        refine AhdI.take (i := 3) (v := ?_) OK.out (by simp only [List.getElem?_toArray, List.getElem?_cons_succ, List.getElem?_cons_zero]; rfl) (by simp) (by kernel_rfl) (by kernel_rfl) (by exact fun _ _ _ h => h) hS0 (Or.inl ⟨by rfl, ?_⟩) ?_
        rotate_left 1
        · intro w3 hSw
          have hSw : w3.cell? ⟨w.heap.size + 1, 4, none⟩ = some (.slice A n c) := hSw
          go_simp
          try with_reducible rfl
        try simp only [Act.put, List.setIfInBounds_toArray, List.set_cons_zero, List.set_cons_succ]
        refine AhdI.take (i := 4) (v := ?_) OK.out (by simp only [List.getElem?_toArray, List.getElem?_cons_succ, List.getElem?_cons_zero]; rfl) (by simp) (by kernel_rfl) (by kernel_rfl) (by exact fun _ _ _ h => h) hS0 (Or.inl ⟨by rfl, ?_⟩) ?_
        rotate_left 1
        · intro w3 hSw
          have hSw : w3.cell? ⟨w.heap.size + 1, 4, none⟩ = some (.slice A n c) := hSw
          go_simp
          try with_reducible rfl
        try simp only [Act.put, List.setIfInBounds_toArray, List.set_cons_zero, List.set_cons_succ]
        refine AhdI.one (i := 5) (by simp only [List.getElem?_toArray, List.getElem?_cons_succ, List.getElem?_cons_zero]; rfl) (by simp) (by kernel_rfl) (fun K' hK => ?_)
        have HK := hid hK
        clear hK
        go_simp
        refine (HCALL.out _ (HL.out.same (Only.drew (Only.refl _ _)))).mono ?_
        intro e w1 hp
        obtain ⟨k1, n1, e1, t1, A1, l1, cc1, rfl, HQ, M3⟩ := hp.get
        have HL1 := hid ((HL.out.same (Only.drew (Only.refl _ _))).moved hjl M3.out)
        clear hp v0 v1 v2 v3 v4 q0 q1 q2 q3 q4 c0 c1 c2 f1 hS0
        obtain ⟨v0, v1, v2, v3, v4, q0, q1, q2, q3, q4⟩ := HL1.out.v5
        refine HK.out _ _ v4 ?_
        clear HK K'
        try simp only [Act.put, List.setIfInBounds_toArray, List.set_cons_zero, List.set_cons_succ]
        refine AhdI.one (i := 6) (by simp only [List.getElem?_toArray, List.getElem?_cons_succ, List.getElem?_cons_zero]; rfl) (by simp) (by kernel_rfl) (fun K' hK => ?_)
        have HK := hid hK
        clear hK
        go_simp
        refine HK.out _ _ ((Only.cell (S := fun _ => False) (Only.alloc (Only.refl _ _) _) (World.block_lt_of_cell? w1 _ v4) (fun h => h)).trans v4) ?_
        clear HK K'
        try simp only [Act.put, List.setIfInBounds_toArray, List.set_cons_zero, List.set_cons_succ]
        refine AhdI.one (i := 7) (by simp only [List.getElem?_toArray, List.getElem?_cons_succ, List.getElem?_cons_zero]; rfl) (by simp) (by kernel_rfl) (fun K' hK => ?_)
        have HK := hid hK
        clear hK
        refine step_prow_push rfl _ _ rfl (w0 := w1) (base := w.heap.size + 2) (ok := fun k => w.heap.size + 2 ≤ k) (.slice A n c) (done.map rd) rfl HL1.out.row (rd p) [.int .i64 k1, .int .u64 n1, .string t1, .int .i64 e1, .slice A1 l1 cc1] rfl rfl rfl (HQ.out.keep fun k hk hok => ⟨⟨by have := HL.out.lt; have h2 : wr.heap.size ≤ k := hok; omega, fun e => by have := (HL.out.row.block e).2; have h2 : wr.heap.size ≤ k := hok; omega⟩, rfl⟩) (fun k hk => by have := HL1.out.lt; omega) HL1.out.lt hdl ?_
        intro v' w2 r1 r2
        obtain ⟨A2, cap2, rfl⟩ := r1.open' (n := n + 1) (by rw [List.length_append]; have := HN.out; simp at this ⊢; exact this)
        have hown : ¬ (Value.slice A n c).ownBlock = some (w.heap.size + 1) := fun e => by have := (HL1.out.row.block e).1; omega
        have x4 := ((Only.of_grown r2).cell (o := 4) (World.block_lt_of_cell? w1 _ v4) hown).trans v4
        have y4 := ((Only.of_grown r2).frozen (o := 4) (World.block_lt_of_cell? w1 _ v4) hown).trans q4
        have HL2 := hid (HL1.out.push hjl r1 r2)
        clear r1 r2 hown v0 v1 v2 v3 v4 q0 q1 q2 q3 q4
        refine HK.out _ _ x4 ?_
        clear HK K'
        try simp only [Act.put, List.setIfInBounds_toArray, List.set_cons_zero, List.set_cons_succ]
        refine AhdI.done (by kernel_rfl) ?_
        simp only [List.drop_succ_cons, List.drop_zero]
        go_wp2_with (go_at_call 44; refine (HEY.out _ HL2.out.jt).mono ?_; rintro e w4 ⟨rfl, h1⟩; have hls := HL2.out.moved hjl h1; have H4 := hid hls; obtain ⟨g0, g1, g2, g3, g4, p0', p1, p2, p3, p4⟩ := hls.r5; obtain ⟨v0, v1, v2, v3, v4, q0, q1, q2, q3, q4⟩ := hls.v5; clear h1 hls)
        have hd := H4.out.done hjl (by simp at hdl ⊢; omega) (by have := HN.out; simp at this ⊢; exact this)
        refine bodyPost_ret (res_cell1 rfl rfl hd.2) rfl ?_
        have e1 : (p0 :: rest0).map rd = done.map rd ++ [rd p] := by rw [HKS.out]; simp
        have e2 : at_ + (jsArr (p0 :: rest0)).length + 2 = atq + (js p).length + 1 := by rw [jsArrT_nil] at hat; simp at hat; omega
        rw [← e1] at hd
        rw [e2]
        exact hd.1
      · subst hrs
        have HAT : Hid (Ahead s (atq + (js p).length) (44 :: (js pn ++ (jsArrT rest2 ++ 93 :: post)))) := hid (by have := Ahead.app _ HA.out; rw [jsArrT_cons] at this; simpa using this)
        have HAN : Hid (Ahead s (atq + (js p).length + 1) (js pn ++ (jsArrT rest2 ++ 93 :: post))) := hid HAT.out.cons.2.2
        have HEN : Hid (∀ w1, Jt w1 j s (atq + (js p).length) → Calls Tryz.prog 44 #[.pointer (some ⟨j, 0, none⟩), .int .u8 93] w1 (EatPost false w1 j s (atq + (js p).length))) := hid fun w1 h1 => eat_no_b w1 j s _ h1 44 93 _ HAT.out (by unfold NotBlank; decide) (by decide)
        have HEC : Hid (∀ w1, Jt w1 j s (atq + (js p).length) → Calls Tryz.prog 44 #[.pointer (some ⟨j, 0, none⟩), .int .u8 44] w1 (EatPost true w1 j s (atq + (js p).length + 1))) := hid fun w1 h1 => eat_yes w1 j s _ h1 44 _ HAT.out (by unfold NotBlank; decide)
        go_wp2_with fail
        refine wp_region_ahd 8 (fun w' => w'.cell? ⟨w.heap.size + 1, 4, none⟩ = some (.slice A n c)) (by kernel_rfl) ⟨by kernel_rfl, by kernel_rfl, by kernel_rfl, by kernel_rfl⟩ (by go_simp) ?_
        intro hS0 ok
        have OK := hid ok
        clear ok
        refine AhdI.take (i := 0) (v := ?_) OK.out (by simp only [List.getElem?_toArray, List.getElem?_cons_succ, List.getElem?_cons_zero]; rfl) (by simp) (by kernel_rfl) (by kernel_rfl) (by exact fun _ _ _ h => h) hS0 (Or.inl ⟨by rfl, ?_⟩) ?_
        rotate_left 1
        · intro w3 hSw
          have hSw : w3.cell? ⟨w.heap.size + 1, 4, none⟩ = some (.slice A n c) := hSw
          go_simp
          try with_reducible rfl
        try simp only [Act.put, List.setIfInBounds_toArray, List.set_cons_zero, List.set_cons_succ]
        refine AhdI.take (i := 1) (v := ?_) OK.out (by simp only [List.getElem?_toArray, List.getElem?_cons_succ, List.getElem?_cons_zero]; rfl) (by simp) (by kernel_rfl) (by kernel_rfl) (by exact fun _ _ _ h => h) hS0 (Or.inl ⟨by rfl, ?_⟩) ?_
        rotate_left 1
        · intro w3 hSw
          have hSw : w3.cell? ⟨w.heap.size + 1, 4, none⟩ = some (.slice A n c) := hSw
          go_simp
          try with_reducible rfl
        try simp only [Act.put, List.setIfInBounds_toArray, List.set_cons_zero, List.set_cons_succ]
        refine AhdI.take (i := 2) (v := ?_) OK.out (by simp only [List.getElem?_toArray, List.getElem?_cons_succ, List.getElem?_cons_zero]; rfl) (by simp) (by kernel_rfl) (by kernel_rfl) (by exact fun _ _ _ h => h) hS0 (Or.inl ⟨by rfl, ?_⟩) ?_
        rotate_left 1
        · intro w3 hSw
          have hSw : w3.cell? ⟨w.heap.size + 1, 4, none⟩ = some (.slice A n c) := hSw
          go_simp
          try with_reducible rfl
        try simp only [Act.put, List.setIfInBounds_toArray, List.set_cons_zero, List.set_cons_succ]
        refine AhdI.take (i := 3) (v := ?_) OK.out (by simp only [List.getElem?_toArray, List.getElem?_cons_succ, List.getElem?_cons_zero]; rfl) (by simp) (by kernel_rfl) (by kernel_rfl) (by exact fun _ _ _ h => h) hS0 (Or.inl ⟨by rfl, ?_⟩) ?_
        rotate_left 1
        · intro w3 hSw
          have hSw : w3.cell? ⟨w.heap.size + 1, 4, none⟩ = some (.slice A n c) := hSw
          go_simp
          try with_reducible rfl
        try simp only [Act.put, List.setIfInBounds_toArray, List.set_cons_zero, List.set_cons_succ]
        refine AhdI.take (i := 4) (v := ?_) OK.out (by simp only [List.getElem?_toArray, List.getElem?_cons_succ, List.getElem?_cons_zero]; rfl) (by simp) (by kernel_rfl) (by kernel_rfl) (by exact fun _ _ _ h => h) hS0 (Or.inl ⟨by rfl, ?_⟩) ?_
        rotate_left 1
        · intro w3 hSw
          have hSw : w3.cell? ⟨w.heap.size + 1, 4, none⟩ = some (.slice A n c) := hSw
          go_simp
          try with_reducible rfl
        try simp only [Act.put, List.setIfInBounds_toArray, List.set_cons_zero, List.set_cons_succ]
        refine AhdI.one (i := 5) (by simp only [List.getElem?_toArray, List.getElem?_cons_succ, List.getElem?_cons_zero]; rfl) (by simp) (by kernel_rfl) (fun K' hK => ?_)
        have HK := hid hK
        clear hK
        go_simp
        refine (HCALL.out _ (HL.out.same (Only.drew (Only.refl _ _)))).mono ?_
        intro e w1 hp
        obtain ⟨k1, n1, e1, t1, A1, l1, cc1, rfl, HQ, M3⟩ := hp.get
        have HL1 := hid ((HL.out.same (Only.drew (Only.refl _ _))).moved hjl M3.out)
        clear hp v0 v1 v2 v3 v4 q0 q1 q2 q3 q4 c0 c1 c2 f1 hS0
        obtain ⟨v0, v1, v2, v3, v4, q0, q1, q2, q3, q4⟩ := HL1.out.v5
        refine HK.out _ _ v4 ?_
        clear HK K'
        try simp only [Act.put, List.setIfInBounds_toArray, List.set_cons_zero, List.set_cons_succ]
        refine AhdI.one (i := 6) (by simp only [List.getElem?_toArray, List.getElem?_cons_succ, List.getElem?_cons_zero]; rfl) (by simp) (by kernel_rfl) (fun K' hK => ?_)
        have HK := hid hK
        clear hK
        go_simp
        refine HK.out _ _ ((Only.cell (S := fun _ => False) (Only.alloc (Only.refl _ _) _) (World.block_lt_of_cell? w1 _ v4) (fun h => h)).trans v4) ?_
        clear HK K'
        try simp only [Act.put, List.setIfInBounds_toArray, List.set_cons_zero, List.set_cons_succ]
        refine AhdI.one (i := 7) (by simp only [List.getElem?_toArray, List.getElem?_cons_succ, List.getElem?_cons_zero]; rfl) (by simp) (by kernel_rfl) (fun K' hK => ?_)
        have HK := hid hK
        clear hK
        refine step_prow_push rfl _ _ rfl (w0 := w1) (base := w.heap.size + 2) (ok := fun k => w.heap.size + 2 ≤ k) (.slice A n c) (done.map rd) rfl HL1.out.row (rd p) [.int .i64 k1, .int .u64 n1, .string t1, .int .i64 e1, .slice A1 l1 cc1] rfl rfl rfl (HQ.out.keep fun k hk hok => ⟨⟨by have := HL.out.lt; have h2 : wr.heap.size ≤ k := hok; omega, fun e => by have := (HL.out.row.block e).2; have h2 : wr.heap.size ≤ k := hok; omega⟩, rfl⟩) (fun k hk => by have := HL1.out.lt; omega) HL1.out.lt hdl ?_
        intro v' w2 r1 r2
        obtain ⟨A2, cap2, rfl⟩ := r1.open' (n := n + 1) (by rw [List.length_append]; have := HN.out; simp at this ⊢; exact this)
        have hown : ¬ (Value.slice A n c).ownBlock = some (w.heap.size + 1) := fun e => by have := (HL1.out.row.block e).1; omega
        have x4 := ((Only.of_grown r2).cell (o := 4) (World.block_lt_of_cell? w1 _ v4) hown).trans v4
        have y4 := ((Only.of_grown r2).frozen (o := 4) (World.block_lt_of_cell? w1 _ v4) hown).trans q4
        have HL2 := hid (HL1.out.push hjl r1 r2)
        clear r1 r2 hown v0 v1 v2 v3 v4 q0 q1 q2 q3 q4
        refine HK.out _ _ x4 ?_
        clear HK K'
        try simp only [Act.put, List.setIfInBounds_toArray, List.set_cons_zero, List.set_cons_succ]
        refine AhdI.done (by kernel_rfl) ?_
        simp only [List.drop_succ_cons, List.drop_zero]
        go_wp2_with (first
          | (go_at_call_of 44 (Value.int IntKind.u8 93); refine (HEN.out _ HL2.out.jt).mono ?_; rintro e w4 ⟨rfl, h1⟩; have H4 := hid (HL2.out.moved hjl h1); clear h1)
          | (go_at_call_of 44 (Value.int IntKind.u8 44); refine (HEC.out _ H4.out.jt).mono ?_; rintro e w5 ⟨rfl, h1⟩; have H5 := hid (H4.out.moved hjl h1); clear h1))
        go_roundg (gk - 1)
        case measure => omega
        case rel =>
          refine ⟨done ++ [p], pn, rest2, atq + (js p).length + 1, A2, n + 1, cap2, hid (by rw [HKS.out]; simp), HAN, hid (by have := H5.out; simpa using this), by simp at hgm; omega, ?_⟩
          rw [jsArrT_cons] at hat
          simp at hat
          omega
end Go.Proofs.YtbgckolcimlofaaGreatDoor
