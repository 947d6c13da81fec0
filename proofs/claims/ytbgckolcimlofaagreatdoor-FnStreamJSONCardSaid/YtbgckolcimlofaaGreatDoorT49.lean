/-
  The parser: list, an array; where the items are read.
-/
import Derived.Test.YtbgckolcimlofaaGreatDoorProg
import Derived.Test.YtbgckolcimlofaaGreatDoorT48
set_option linter.unusedVariables false
set_option linter.unusedSimpArgs false
namespace Go.Proofs.YtbgckolcimlofaaGreatDoor
open Go.RowKit YtbgckolcimlofaaGreatDoorPj

theorem tx_back (t : ByteArray) : (⟨(tx t).toArray⟩ : ByteArray) = t := by
  obtain ⟨⟨l⟩⟩ := t
  rfl
theorem rd_key (k : P) (h : k.kind = 6) : rd k = .mk 6 0 k.text 0 [] := by
  rw [rd_eq, if_neg (by omega), if_neg (by omega), if_pos h]
theorem escB_ge (b : UInt8) : 1 ≤ (escB b).length := by
  unfold escB
  repeat' split
  all_goals simp
/-- What stands in JSON is not shorter. -/
theorem esc_ge : ∀ (n : Nat) (l : List UInt8), l.length = n → l.length ≤ (esc l).length := by
  intro n
  induction n using Nat.strongRecOn with
  | _ n ih =>
    intro l hl
    cases l with
    | nil => simp
    | cons b r =>
      rw [esc]
      split
      · have := ih (r.drop 2).length (by simp at hl; simp; omega) _ rfl
        simp at this ⊢
        omega
      · have := ih r.length (by simp at hl; omega) _ rfl
        have hb := escB_ge b
        simp at this ⊢
        omega
set_option maxRecDepth 100000 in
set_option maxHeartbeats 16000000 in
theorem list_map (lv : Nat) (ks : List P) (ih : ∀ q ∈ ks, ValAt lv q) (hkey : ∀ (i : Nat) (h : i < ks.length), i % 2 = 0 → ks[i].kind = 6 ∧ Lib.validD (tx ks[i].text) = true) (heven : ks.length % 2 = 0) (hfew : ks.length ≤ 2000) (hlv : lv ≤ 1000) (w : World) (j : Nat) (s : ByteArray) (at_ : Nat) (h : Jt w j s at_) (post : List UInt8) (ha : Ahead s at_ (123 :: (jsMap ks ++ 125 :: post))) (hT : Lib.Utf8Tabs 1 2 w) :
    Calls Tryz.prog 37 #[.pointer (some ⟨j, 0, none⟩), .int .i64 9, .int .u8 125, .int .i64 ((lv + 1 : Nat) : Int)] w (PackPost (.mk 9 0 ⟨#[]⟩ 0 (ks.map rd)) w j s (at_ + (jsMap ks).length + 2)) := by
  obtain ⟨hl, hsb, ha1⟩ := ha.cons
  have hjl := h.lt
  obtain ⟨c0, c1, c2, f1, le, big⟩ := h
  have HS0 : Hid (∀ {z : Int}, z = (at_ : Int) + 1 → LState w j s 9 (L2 w j 9 z) (at_ + 1) (.slice none 0 0) []) := hid fun hz => LState.start ⟨c0, c1, c2, f1, le, big⟩ hT 9 hl hz
  have HA1 := hid ha1
  have HIH := hid ih
  have HFEW := hid hfew
  have HKEY := hid hkey
  have HEV := hid heven
  have hww : IntKind.i64.wrap (lv : Int) = (lv : Int) := IntWalk.i64_in _ (by omega)
  clear hsb ha ha1 hT ih hfew hkey heven
  rcases hks : ks with _ | ⟨k0, _ | ⟨p0, rest0⟩⟩
  · subst hks
    have HE : Hid (∀ w1, Jt w1 j s (at_ + 1) → Calls Tryz.prog 44 #[.pointer (some ⟨j, 0, none⟩), .int .u8 125] w1 (EatPost true w1 j s (at_ + 1 + 1))) := hid fun w1 h1 => eat_yes w1 j s (at_ + 1) h1 125 post (by have := HA1.out; rw [jsMap_nil] at this; exact this) (by unfold NotBlank; decide)
    go_enter Tryz.func37, Tryz.ntmps37
    go_wp2_with (go_at_call 44; refine (HE.out _ (HS0.out rfl).jt).mono ?_; rintro e w1 ⟨rfl, h1⟩; have hls := (HS0.out rfl).moved hjl h1; have H1 := hid hls; obtain ⟨g0, g1, g2, g3, g4, p0, p1, p2, p3, p4⟩ := hls.r5; obtain ⟨v0, v1, v2, v3, v4, q0, q1, q2, q3, q4⟩ := hls.v5; clear h1 hls)
    have hd := H1.out.done hjl (by simp) rfl
    refine bodyPost_ret (res_cell1 rfl rfl hd.2) rfl ?_
    have e : at_ + (jsMap []).length + 2 = at_ + 1 + 1 := by rw [jsMap_nil]; simp
    rw [e]
    exact hd.1
  · exact absurd HEV.out (by rw [hks]; simp)
  · have HE : Hid (∀ w1, Jt w1 j s (at_ + 1) → Calls Tryz.prog 44 #[.pointer (some ⟨j, 0, none⟩), .int .u8 125] w1 (EatPost false w1 j s (at_ + 1))) := hid fun w1 h1 => eat_no_b w1 j s (at_ + 1) h1 34 125 _ (by have := HA1.out; rw [hks, jsMap_cons] at this; exact this) (by unfold NotBlank; decide) (by decide)
    have HTOT : Hid (at_ + 1 + (jsMap ks).length + 1 = at_ + (jsMap ks).length + 2) := hid (by omega)
    rw [← hks]
    go_enter Tryz.func37, Tryz.ntmps37
    go_wp2_with (go_at_call 44; refine (HE.out _ (HS0.out rfl).jt).mono ?_; rintro e w1 ⟨rfl, h1⟩; have H1 := hid ((HS0.out rfl).moved hjl h1); clear h1)
    have HKS0 := hid hks
    clear hks
    go_loopg [] (rest0.length + 1) (fun gm wr => ∃ (done : List P) (k p : P) (rest : List P) (atq : Nat) (A : Option Addr) (n c : Nat), Hid (ks = done ++ k :: p :: rest) ∧ Hid (done.length % 2 = 0) ∧ Hid (Ahead s atq (quote (tx k.text) ++ 58 :: (js p ++ (jsMapT rest ++ 125 :: post)))) ∧ Hid (LState w j s 9 wr atq (.slice A n c) (done.map rd)) ∧ rest.length + 1 ≤ gm ∧ atq + (quote (tx k.text)).length + 1 + (js p).length + (jsMapT rest).length = at_ + 1 + (jsMap ks).length)
    case atStart =>
      refine ⟨[], k0, p0, rest0, at_ + 1, none, 0, 0, hid HKS0.out, hid rfl, hid ?_, H1, Nat.le_refl _, ?_⟩
      · have := HA1.out
        rw [HKS0.out, jsMap_cons] at this
        simpa using this
      · rw [HKS0.out, jsMap_cons]
        simp
        omega
    case round =>
      clear HE HS0 H1 c0 c1 c2 f1 le hl
      obtain ⟨done, k, p, rest, atq, A, n, c, HKS, HEVD, HA, HL, hgm, hat⟩ := hrel
      have hkk := HKEY.out done.length (by rw [HKS.out]; simp) HEVD.out
      have hget : ks[done.length]'(by rw [HKS.out]; simp) = k := by simp [HKS.out]
      rw [hget] at hkk
      have HKK := hid hkk
      have hq2 : (quote (tx k.text)).length = (esc (tx k.text)).length + 2 := by simp [quote]
      have hA0 : quote (tx k.text) ++ 58 :: (js p ++ (jsMapT rest ++ 125 :: post)) = 34 :: (esc (tx k.text) ++ 34 :: (58 :: (js p ++ (jsMapT rest ++ 125 :: post)))) := by simp [quote]
      have HA0 : Hid (Ahead s atq (34 :: (esc (tx k.text) ++ 34 :: (58 :: (js p ++ (jsMapT rest ++ 125 :: post)))))) := hid (hA0 ▸ HA.out)
      obtain ⟨ak, hak⟩ : ∃ ak, ak = atq + (quote (tx k.text)).length := ⟨_, rfl⟩
      have HA5 : Hid (Ahead s ak (58 :: (js p ++ (jsMapT rest ++ 125 :: post)))) := hid (by rw [hak]; exact Ahead.app _ HA.out)
      have HA6 : Hid (Ahead s (ak + 1) (js p ++ (jsMapT rest ++ 125 :: post))) := hid HA5.out.cons.2.2
      have HTEXT : Hid (∀ w1, LState w j s 9 w1 atq (.slice A n c) (done.map rd) → Calls Tryz.prog 36 #[.pointer (some ⟨j, 0, none⟩)] w1 (TextPost (tx k.text) w1 j s ak)) := hid fun w1 h1 => by
        have := readText w1 j s atq h1.jt (esc (tx k.text)) (tx k.text) (58 :: (js p ++ (jsMapT rest ++ 125 :: post))) (un_esc _ _ rfl) HA0.out HKK.out.2 h1.tabs
        have e : atq + (esc (tx k.text)).length + 2 = ak := by rw [hak, hq2]; omega
        rw [e] at this
        exact this
      have HCALL : Hid (∀ w1 vv ps, LState w j s 9 w1 (ak + 1) vv ps → Calls Tryz.prog 23 #[.pointer (some ⟨j, 0, none⟩), .int .i64 (lv : Nat)] w1 (PackPost (rd p) w1 j s (ak + 1 + (js p).length))) := hid fun w1 vv ps h1 => by
        refine HIH.out p (by rw [HKS.out]; simp) w1 j s (ak + 1) _ h1.jt HA6.out ?_ h1.tabs
        exact noDig_app 125 _ _ (Or.inr (by decide)) (jsMapT_first rest)
      have HBL : Hid (∀ w1, Jt w1 j s atq → Calls Tryz.prog 24 #[.pointer (some ⟨j, 0, none⟩)] w1 (VoidPost w1)) := hid fun w1 h1 => blank_b w1 j s atq h1 34 _ HA0.out (by unfold NotBlank; decide)
      have HE58 : Hid (∀ w1, Jt w1 j s ak → Calls Tryz.prog 44 #[.pointer (some ⟨j, 0, none⟩), .int .u8 58] w1 (EatPost true w1 j s (ak + 1))) := hid fun w1 h1 => eat_yes w1 j s ak h1 58 _ HA5.out (by unfold NotBlank; decide)
      have hdl : (done.map rd).length + 2 ≤ 1000000 := by
        have h1 : ks.length = (done ++ k :: p :: rest).length := by rw [HKS.out]
        have := HFEW.out
        simp at h1 this ⊢
        omega
      obtain ⟨hl1, hsb1, -⟩ := HA0.out.cons
      have hx34 : (((s[atq]'hl1).toNat : Nat) : Int) = 34 := by rw [hsb1]; rfl
      have d1 : decide ((s.size : Int) ≤ atq) = false := by simp; omega
      have d2 : (atq : Int) < s.size := by omega
      have d3 : (0 : Int) ≤ atq := by omega
      clear hsb1 hkk hget hA0 hq2
      obtain ⟨c0, c1, c2, f1, le, -⟩ := HL.out.jt
      have HN : Hid ((done.map rd).length = n) := hid (by obtain ⟨_, _, e⟩ := HL.out.row.open; injection e with _ e _; exact e.symm)
      have HTS : Hid (k.text.size ≤ 9223372036854775807) := hid (by
        have h1 := HA.out.2
        have h2 : (esc (tx k.text)).length + 2 ≤ s.size := by
          have h3 := (Ahead.app _ HA.out).2
          have h4 : (quote (tx k.text)).length = (esc (tx k.text)).length + 2 := by simp [quote]
          omega
        have h5 := esc_ge _ (tx k.text) rfl
        rw [tx_length] at h5
        omega)
      rcases hrs : rest with _ | ⟨kn, _ | ⟨pn, rest2⟩⟩
      · subst hrs
        have HEY : Hid (∀ w1, Jt w1 j s (ak + 1 + (js p).length) → Calls Tryz.prog 44 #[.pointer (some ⟨j, 0, none⟩), .int .u8 125] w1 (EatPost true w1 j s (ak + 1 + (js p).length + 1))) := hid fun w1 h1 => eat_yes w1 j s _ h1 125 post (by have := Ahead.app _ HA6.out; rw [jsMapT_nil] at this; exact this) (by unfold NotBlank; decide)
        go_wp2_with (go_at_call 24; refine (HBL.out _ HL.out.jt).mono ?_; rintro e w1 ⟨rfl, h1⟩; have HLB := hid (HL.out.same h1); clear h1; obtain ⟨c0', c1', c2', f1', -, -⟩ := HLB.out.jt)
        go_quiet (fail)
        go_wp2_with fail
        have HLQ := hid (HLB.out.same (Only.drewN (Only.refl (fun _ => False) w1) nq))
        clear HLB HL c0 c1 c2 f1 c0' c1' c2' f1' hx34 d1 d2 d3
        generalize w1.drewN nq = wr at HLQ ⊢
        obtain ⟨v0, v1, v2, v3, v4, q0, q1, q2, q3, q4⟩ := HLQ.out.v5
        refine wp_region_ahd 7 (fun w' => w'.cell? ⟨w.heap.size + 1, 4, none⟩ = some (.slice A n c)) (by kernel_rfl) ⟨by kernel_rfl, by kernel_rfl, by kernel_rfl, by kernel_rfl⟩ (by go_simp) ?_
        intro hS0 ok
        have OK := hid ok
        clear ok
        refine AhdI.take (i := 0) (v := ?_) OK.out (by simp only [List.getElem?_toArray, List.getElem?_cons_succ, List.getElem?_cons_zero]; rfl) (by simp) (by kernel_rfl) (by kernel_rfl) (by exact fun _ _ _ h => h) hS0 (Or.inl ⟨by rfl, ?_⟩) ?_
        rotate_left 1
        · intro w3 hSw
          have hSw : w3.cell? ⟨w.heap.size + 1, 4, none⟩ = some (.slice A n c) := hSw
          go_simp
          try with_reducible rfl
        try simp only [Act.put, List.setIfInBounds_toArray, List.set_cons_zero, List.set_cons_succ]
        refine AhdI.take (i := 1) (v := ?_) OK.out (by simp only [List.getElem?_toArray, List.getElem?_cons_succ, List.getElem?_cons_zero]; rfl) (by simp) (by kernel_rfl) (by kernel_rfl) (by exact fun _ _ _ h => h) hS0 (Or.inl ⟨by rfl, ?_⟩) ?_
        rotate_left 1
        · intro w3 hSw
          have hSw : w3.cell? ⟨w.heap.size + 1, 4, none⟩ = some (.slice A n c) := hSw
          go_simp
          try with_reducible rfl
        try simp only [Act.put, List.setIfInBounds_toArray, List.set_cons_zero, List.set_cons_succ]
        refine AhdI.take (i := 2) (v := ?_) OK.out (by simp only [List.getElem?_toArray, List.getElem?_cons_succ, List.getElem?_cons_zero]; rfl) (by simp) (by kernel_rfl) (by kernel_rfl) (by exact fun _ _ _ h => h) hS0 (Or.inl ⟨by rfl, ?_⟩) ?_
        rotate_left 1
        · intro w3 hSw
          have hSw : w3.cell? ⟨w.heap.size + 1, 4, none⟩ = some (.slice A n c) := hSw
          go_simp
          try with_reducible rfl
        try simp only [Act.put, List.setIfInBounds_toArray, List.set_cons_zero, List.set_cons_succ]
        refine AhdI.one (i := 3) (by simp only [List.getElem?_toArray, List.getElem?_cons_succ, List.getElem?_cons_zero]; rfl) (by simp) (by kernel_rfl) (fun K' hK => ?_)
        have HK := hid hK
        clear hK
        go_simp
        refine (HTEXT.out _ (HLQ.out.same (Only.drew (Only.refl _ _)))).mono ?_
        rintro e w5 ⟨rfl, hm5⟩
        have HL1 := hid ((HLQ.out.same (Only.drew (Only.refl _ _))).moved hjl hm5)
        clear hm5 v0 v1 v2 v3 v4 q0 q1 q2 q3 q4 hS0
        obtain ⟨v0, v1, v2, v3, v4, q0, q1, q2, q3, q4⟩ := HL1.out.v5
        rw [tx_back]
        refine HK.out _ _ v4 ?_
        clear HK K'
        try simp only [Act.put, List.setIfInBounds_toArray, List.set_cons_zero, List.set_cons_succ]
        have hS0 : w5.cell? ⟨w.heap.size + 1, 4, none⟩ = some (.slice A n c) := v4
        refine AhdI.take (i := 4) (v := ?_) OK.out (by simp only [List.getElem?_toArray, List.getElem?_cons_succ, List.getElem?_cons_zero]; rfl) (by simp) (by kernel_rfl) (by kernel_rfl) (by exact fun _ _ _ h => h) hS0 (Or.inl ⟨by rfl, ?_⟩) ?_
        rotate_left 1
        · intro w3 hSw
          have hSw : w3.cell? ⟨w.heap.size + 1, 4, none⟩ = some (.slice A n c) := hSw
          go_simp
          try with_reducible rfl
        try simp only [Act.put, List.setIfInBounds_toArray, List.set_cons_zero, List.set_cons_succ]
        refine AhdI.one (i := 5) (by simp only [List.getElem?_toArray, List.getElem?_cons_succ, List.getElem?_cons_zero]; rfl) (by simp) (by kernel_rfl) (fun K' hK => ?_)
        have HK := hid hK
        clear hK
        go_simp
        refine HK.out _ _ ((Only.cell (S := fun _ => False) (Only.alloc (Only.refl _ _) _) (World.block_lt_of_cell? w5 _ v4) (fun h => h)).trans v4) ?_
        clear HK K'
        try simp only [Act.put, List.setIfInBounds_toArray, List.set_cons_zero, List.set_cons_succ]
        refine AhdI.one (i := 6) (by simp only [List.getElem?_toArray, List.getElem?_cons_succ, List.getElem?_cons_zero]; rfl) (by simp) (by kernel_rfl) (fun K' hK => ?_)
        have HK := hid hK
        clear hK
        refine step_prow_push rfl _ _ rfl (w0 := w5) (base := w.heap.size + 2) (ok := fun k => w.heap.size + 2 ≤ k) (.slice A n c) (done.map rd) rfl HL1.out.row (rd k) [.int .i64 6, .int .u64 0, .string k.text, .int .i64 0, .slice none 0 0] rfl rfl rfl (by rw [rd_key k HKK.out.1]; exact IsPk.leaf _ _ 6 0 k.text (by decide) (by decide) HTS.out) (fun k hk => by have := HL1.out.lt; omega) HL1.out.lt (by omega) ?_
        intro v' w6 r1 r2
        obtain ⟨A2, cap2, rfl⟩ := r1.open' (n := n + 1) (by rw [List.length_append]; have := HN.out; simp at this ⊢; exact this)
        have hown : ¬ (Value.slice A n c).ownBlock = some (w.heap.size + 1) := fun e => by have := (HL1.out.row.block e).1; omega
        have x4 := ((Only.of_grown r2).cell (o := 4) (World.block_lt_of_cell? w5 _ v4) hown).trans v4
        have y4 := ((Only.of_grown r2).frozen (o := 4) (World.block_lt_of_cell? w5 _ v4) hown).trans q4
        have HL2 := hid (HL1.out.push hjl r1 r2)
        clear r1 r2 hown v0 v1 v2 v3 v4 q0 q1 q2 q3 q4
        refine HK.out _ _ x4 ?_
        clear HK K'
        try simp only [Act.put, List.setIfInBounds_toArray, List.set_cons_zero, List.set_cons_succ]
        refine AhdI.done (by kernel_rfl) ?_
        simp only [List.drop_succ_cons, List.drop_zero]
        go_wp2_with (go_at_call_of 44 (Value.int IntKind.u8 58); refine (HE58.out _ HL2.out.jt).mono ?_; rintro e w7 ⟨rfl, h1⟩; have HL3 := hid (HL2.out.moved hjl h1); clear h1)
        have HN3 : Hid ((done.map rd ++ [rd k]).length = n + 1) := hid (by have := HN.out; simp at this ⊢; exact this)
        clear HL2 HL1 HLQ hS0
        obtain ⟨c0, c1, c2, f1, le, -⟩ := HL3.out.jt
        obtain ⟨v0, v1, v2, v3, v4, q0, q1, q2, q3, q4⟩ := HL3.out.v5
        refine wp_region_ahd 8 (fun w' => w'.cell? ⟨w.heap.size + 1, 4, none⟩ = some (.slice A2 (n + 1) cap2)) (by kernel_rfl) ⟨by kernel_rfl, by kernel_rfl, by kernel_rfl, by kernel_rfl⟩ (by go_simp) ?_
        intro hS0 ok
        have OK := hid ok
        clear ok
        refine AhdI.take (i := 0) (v := ?_) OK.out (by simp only [List.getElem?_toArray, List.getElem?_cons_succ, List.getElem?_cons_zero]; rfl) (by simp) (by kernel_rfl) (by kernel_rfl) (by exact fun _ _ _ h => h) hS0 (Or.inl ⟨by rfl, ?_⟩) ?_
        rotate_left 1
        · intro w3 hSw
          have hSw : w3.cell? ⟨w.heap.size + 1, 4, none⟩ = some (.slice A2 (n + 1) cap2) := hSw
          go_simp
          try with_reducible rfl
        try simp only [Act.put, List.setIfInBounds_toArray, List.set_cons_zero, List.set_cons_succ]
        refine AhdI.take (i := 1) (v := ?_) OK.out (by simp only [List.getElem?_toArray, List.getElem?_cons_succ, List.getElem?_cons_zero]; rfl) (by simp) (by kernel_rfl) (by kernel_rfl) (by exact fun _ _ _ h => h) hS0 (Or.inl ⟨by rfl, ?_⟩) ?_
        rotate_left 1
        · intro w3 hSw
          have hSw : w3.cell? ⟨w.heap.size + 1, 4, none⟩ = some (.slice A2 (n + 1) cap2) := hSw
          go_simp
          try with_reducible rfl
        try simp only [Act.put, List.setIfInBounds_toArray, List.set_cons_zero, List.set_cons_succ]
        refine AhdI.take (i := 2) (v := ?_) OK.out (by simp only [List.getElem?_toArray, List.getElem?_cons_succ, List.getElem?_cons_zero]; rfl) (by simp) (by kernel_rfl) (by kernel_rfl) (by exact fun _ _ _ h => h) hS0 (Or.inl ⟨by rfl, ?_⟩) ?_
        rotate_left 1
        · intro w3 hSw
          have hSw : w3.cell? ⟨w.heap.size + 1, 4, none⟩ = some (.slice A2 (n + 1) cap2) := hSw
          go_simp
          try with_reducible rfl
        try simp only [Act.put, List.setIfInBounds_toArray, List.set_cons_zero, List.set_cons_succ]
        refine AhdI.take (i := 3) (v := ?_) OK.out (by simp only [List.getElem?_toArray, List.getElem?_cons_succ, List.getElem?_cons_zero]; rfl) (by simp) (by kernel_rfl) (by kernel_rfl) (by exact fun _ _ _ h => h) hS0 (Or.inl ⟨by rfl, ?_⟩) ?_
        rotate_left 1
        · intro w3 hSw
          have hSw : w3.cell? ⟨w.heap.size + 1, 4, none⟩ = some (.slice A2 (n + 1) cap2) := hSw
          go_simp
          try with_reducible rfl
        try simp only [Act.put, List.setIfInBounds_toArray, List.set_cons_zero, List.set_cons_succ]
        refine AhdI.take (i := 4) (v := ?_) OK.out (by simp only [List.getElem?_toArray, List.getElem?_cons_succ, List.getElem?_cons_zero]; rfl) (by simp) (by kernel_rfl) (by kernel_rfl) (by exact fun _ _ _ h => h) hS0 (Or.inl ⟨by rfl, ?_⟩) ?_
        rotate_left 1
        · intro w3 hSw
          have hSw : w3.cell? ⟨w.heap.size + 1, 4, none⟩ = some (.slice A2 (n + 1) cap2) := hSw
          go_simp
          try with_reducible rfl
        try simp only [Act.put, List.setIfInBounds_toArray, List.set_cons_zero, List.set_cons_succ]
        refine AhdI.one (i := 5) (by simp only [List.getElem?_toArray, List.getElem?_cons_succ, List.getElem?_cons_zero]; rfl) (by simp) (by kernel_rfl) (fun K' hK => ?_)
        have HK := hid hK
        clear hK
        go_simp
        refine (HCALL.out _ _ _ (HL3.out.same (Only.drew (Only.refl _ _)))).mono ?_
        intro e w9 hp
        obtain ⟨k1, n1, e1, t1, A1, l1, cc1, rfl, HQ, M3⟩ := hp.get
        have HL4 := hid ((HL3.out.same (Only.drew (Only.refl _ _))).moved hjl M3.out)
        clear hp v0 v1 v2 v3 v4 q0 q1 q2 q3 q4 c0 c1 c2 f1 hS0
        obtain ⟨v0, v1, v2, v3, v4, q0, q1, q2, q3, q4⟩ := HL4.out.v5
        refine HK.out _ _ v4 ?_
        clear HK K'
        try simp only [Act.put, List.setIfInBounds_toArray, List.set_cons_zero, List.set_cons_succ]
        refine AhdI.one (i := 6) (by simp only [List.getElem?_toArray, List.getElem?_cons_succ, List.getElem?_cons_zero]; rfl) (by simp) (by kernel_rfl) (fun K' hK => ?_)
        have HK := hid hK
        clear hK
        go_simp
        refine HK.out _ _ ((Only.cell (S := fun _ => False) (Only.alloc (Only.refl _ _) _) (World.block_lt_of_cell? w9 _ v4) (fun h => h)).trans v4) ?_
        clear HK K'
        try simp only [Act.put, List.setIfInBounds_toArray, List.set_cons_zero, List.set_cons_succ]
        refine AhdI.one (i := 7) (by simp only [List.getElem?_toArray, List.getElem?_cons_succ, List.getElem?_cons_zero]; rfl) (by simp) (by kernel_rfl) (fun K' hK => ?_)
        have HK := hid hK
        clear hK
        refine step_prow_push rfl _ _ rfl (w0 := w9) (base := w.heap.size + 2) (ok := fun k => w.heap.size + 2 ≤ k) (.slice A2 (n + 1) cap2) (done.map rd ++ [rd k]) rfl HL4.out.row (rd p) [.int .i64 k1, .int .u64 n1, .string t1, .int .i64 e1, .slice A1 l1 cc1] rfl rfl rfl (HQ.out.keep fun k hk hok => ⟨⟨by have := HL3.out.lt; have h2 : w7.heap.size ≤ k := hok; omega, fun e => by have := (HL3.out.row.block e).2; have h2 : w7.heap.size ≤ k := hok; omega⟩, rfl⟩) (fun k hk => by have := HL4.out.lt; omega) HL4.out.lt (by simp at hdl ⊢; omega) ?_
        intro v' w10 r1 r2
        obtain ⟨A3, cap3, rfl⟩ := r1.open' (n := n + 1 + 1) (by rw [List.length_append, HN3.out]; rfl)
        have hown : ¬ (Value.slice A2 (n + 1) cap2).ownBlock = some (w.heap.size + 1) := fun e => by have := (HL4.out.row.block e).1; omega
        have x4 := ((Only.of_grown r2).cell (o := 4) (World.block_lt_of_cell? w9 _ v4) hown).trans v4
        have y4 := ((Only.of_grown r2).frozen (o := 4) (World.block_lt_of_cell? w9 _ v4) hown).trans q4
        have HL5 := hid (HL4.out.push hjl r1 r2)
        clear r1 r2 hown v0 v1 v2 v3 v4 q0 q1 q2 q3 q4
        refine HK.out _ _ x4 ?_
        clear HK K'
        try simp only [Act.put, List.setIfInBounds_toArray, List.set_cons_zero, List.set_cons_succ]
        refine AhdI.done (by kernel_rfl) ?_
        simp only [List.drop_succ_cons, List.drop_zero]
        go_wp2_with (go_at_call 44; refine (HEY.out _ HL5.out.jt).mono ?_; rintro e w4 ⟨rfl, h1⟩; have hls := HL5.out.moved hjl h1; have H4 := hid hls; obtain ⟨g0, g1, g2, g3, g4, p0', p1, p2, p3, p4⟩ := hls.r5; obtain ⟨v0, v1, v2, v3, v4, q0, q1, q2, q3, q4⟩ := hls.v5; clear h1 hls)
        have hd := H4.out.done hjl (by simp at hdl ⊢; omega) (by rw [List.length_append, HN3.out]; rfl)
        refine bodyPost_ret (res_cell1 rfl rfl hd.2) rfl ?_
        have e1 : ks.map rd = done.map rd ++ [rd k] ++ [rd p] := by rw [HKS.out]; simp
        have e2 : at_ + (jsMap ks).length + 2 = ak + 1 + (js p).length + 1 := by rw [jsMapT_nil] at hat; simp at hat; omega
        rw [← e1] at hd
        rw [e2]
        exact hd.1
      · exfalso
        have h1 := HEV.out
        have h2 := HEVD.out
        rw [HKS.out, hrs] at h1
        simp at h1
        omega
      · subst hrs
        have HAT : Hid (Ahead s (ak + 1 + (js p).length) (44 :: (quote (tx kn.text) ++ 58 :: (js pn ++ (jsMapT rest2 ++ 125 :: post))))) := hid (by have := Ahead.app _ HA6.out; rw [jsMapT_cons] at this; simpa using this)
        have HAN : Hid (Ahead s (ak + 1 + (js p).length + 1) (quote (tx kn.text) ++ 58 :: (js pn ++ (jsMapT rest2 ++ 125 :: post)))) := hid HAT.out.cons.2.2
        have HEN : Hid (∀ w1, Jt w1 j s (ak + 1 + (js p).length) → Calls Tryz.prog 44 #[.pointer (some ⟨j, 0, none⟩), .int .u8 125] w1 (EatPost false w1 j s (ak + 1 + (js p).length))) := hid fun w1 h1 => eat_no_b w1 j s _ h1 44 125 _ HAT.out (by unfold NotBlank; decide) (by decide)
        have HEC : Hid (∀ w1, Jt w1 j s (ak + 1 + (js p).length) → Calls Tryz.prog 44 #[.pointer (some ⟨j, 0, none⟩), .int .u8 44] w1 (EatPost true w1 j s (ak + 1 + (js p).length + 1))) := hid fun w1 h1 => eat_yes w1 j s _ h1 44 _ HAT.out (by unfold NotBlank; decide)
        go_wp2_with (go_at_call 24; refine (HBL.out _ HL.out.jt).mono ?_; rintro e w1 ⟨rfl, h1⟩; have HLB := hid (HL.out.same h1); clear h1; obtain ⟨c0', c1', c2', f1', -, -⟩ := HLB.out.jt)
        go_quiet (fail)
        go_wp2_with fail
        have HLQ := hid (HLB.out.same (Only.drewN (Only.refl (fun _ => False) w1) nq))
        clear HLB HL c0 c1 c2 f1 c0' c1' c2' f1' hx34 d1 d2 d3
        generalize w1.drewN nq = wr at HLQ ⊢
        obtain ⟨v0, v1, v2, v3, v4, q0, q1, q2, q3, q4⟩ := HLQ.out.v5
        refine wp_region_ahd 7 (fun w' => w'.cell? ⟨w.heap.size + 1, 4, none⟩ = some (.slice A n c)) (by kernel_rfl) ⟨by kernel_rfl, by kernel_rfl, by kernel_rfl, by kernel_rfl⟩ (by go_simp) ?_
        intro hS0 ok
        have OK := hid ok
        clear ok
        refine AhdI.take (i := 0) (v := ?_) OK.out (by simp only [List.getElem?_toArray, List.getElem?_cons_succ, List.getElem?_cons_zero]; rfl) (by simp) (by kernel_rfl) (by kernel_rfl) (by exact fun _ _ _ h => h) hS0 (Or.inl ⟨by rfl, ?_⟩) ?_
        rotate_left 1
        · intro w3 hSw
          have hSw : w3.cell? ⟨w.heap.size + 1, 4, none⟩ = some (.slice A n c) := hSw
          go_simp
          try with_reducible rfl
        try simp only [Act.put, List.setIfInBounds_toArray, List.set_cons_zero, List.set_cons_succ]
        refine AhdI.take (i := 1) (v := ?_) OK.out (by simp only [List.getElem?_toArray, List.getElem?_cons_succ, List.getElem?_cons_zero]; rfl) (by simp) (by kernel_rfl) (by kernel_rfl) (by exact fun _ _ _ h => h) hS0 (Or.inl ⟨by rfl, ?_⟩) ?_
        rotate_left 1
        · intro w3 hSw
          have hSw : w3.cell? ⟨w.heap.size + 1, 4, none⟩ = some (.slice A n c) := hSw
          go_simp
          try with_reducible rfl
        try simp only [Act.put, List.setIfInBounds_toArray, List.set_cons_zero, List.set_cons_succ]
        refine AhdI.take (i := 2) (v := ?_) OK.out (by simp only [List.getElem?_toArray, List.getElem?_cons_succ, List.getElem?_cons_zero]; rfl) (by simp) (by kernel_rfl) (by kernel_rfl) (by exact fun _ _ _ h => h) hS0 (Or.inl ⟨by rfl, ?_⟩) ?_
        rotate_left 1
        · intro w3 hSw
          have hSw : w3.cell? ⟨w.heap.size + 1, 4, none⟩ = some (.slice A n c) := hSw
          go_simp
          try with_reducible rfl
        try simp only [Act.put, List.setIfInBounds_toArray, List.set_cons_zero, List.set_cons_succ]
        refine AhdI.one (i := 3) (by simp only [List.getElem?_toArray, List.getElem?_cons_succ, List.getElem?_cons_zero]; rfl) (by simp) (by kernel_rfl) (fun K' hK => ?_)
        have HK := hid hK
        clear hK
        go_simp
        refine (HTEXT.out _ (HLQ.out.same (Only.drew (Only.refl _ _)))).mono ?_
        rintro e w5 ⟨rfl, hm5⟩
        have HL1 := hid ((HLQ.out.same (Only.drew (Only.refl _ _))).moved hjl hm5)
        clear hm5 v0 v1 v2 v3 v4 q0 q1 q2 q3 q4 hS0
        obtain ⟨v0, v1, v2, v3, v4, q0, q1, q2, q3, q4⟩ := HL1.out.v5
        rw [tx_back]
        refine HK.out _ _ v4 ?_
        clear HK K'
        try simp only [Act.put, List.setIfInBounds_toArray, List.set_cons_zero, List.set_cons_succ]
        have hS0 : w5.cell? ⟨w.heap.size + 1, 4, none⟩ = some (.slice A n c) := v4
        refine AhdI.take (i := 4) (v := ?_) OK.out (by simp only [List.getElem?_toArray, List.getElem?_cons_succ, List.getElem?_cons_zero]; rfl) (by simp) (by kernel_rfl) (by kernel_rfl) (by exact fun _ _ _ h => h) hS0 (Or.inl ⟨by rfl, ?_⟩) ?_
        rotate_left 1
        · intro w3 hSw
          have hSw : w3.cell? ⟨w.heap.size + 1, 4, none⟩ = some (.slice A n c) := hSw
          go_simp
          try with_reducible rfl
        try simp only [Act.put, List.setIfInBounds_toArray, List.set_cons_zero, List.set_cons_succ]
        refine AhdI.one (i := 5) (by simp only [List.getElem?_toArray, List.getElem?_cons_succ, List.getElem?_cons_zero]; rfl) (by simp) (by kernel_rfl) (fun K' hK => ?_)
        have HK := hid hK
        clear hK
        go_simp
        refine HK.out _ _ ((Only.cell (S := fun _ => False) (Only.alloc (Only.refl _ _) _) (World.block_lt_of_cell? w5 _ v4) (fun h => h)).trans v4) ?_
        clear HK K'
        try simp only [Act.put, List.setIfInBounds_toArray, List.set_cons_zero, List.set_cons_succ]
        refine AhdI.one (i := 6) (by simp only [List.getElem?_toArray, List.getElem?_cons_succ, List.getElem?_cons_zero]; rfl) (by simp) (by kernel_rfl) (fun K' hK => ?_)
        have HK := hid hK
        clear hK
        refine step_prow_push rfl _ _ rfl (w0 := w5) (base := w.heap.size + 2) (ok := fun k => w.heap.size + 2 ≤ k) (.slice A n c) (done.map rd) rfl HL1.out.row (rd k) [.int .i64 6, .int .u64 0, .string k.text, .int .i64 0, .slice none 0 0] rfl rfl rfl (by rw [rd_key k HKK.out.1]; exact IsPk.leaf _ _ 6 0 k.text (by decide) (by decide) HTS.out) (fun k hk => by have := HL1.out.lt; omega) HL1.out.lt (by omega) ?_
        intro v' w6 r1 r2
        obtain ⟨A2, cap2, rfl⟩ := r1.open' (n := n + 1) (by rw [List.length_append]; have := HN.out; simp at this ⊢; exact this)
        have hown : ¬ (Value.slice A n c).ownBlock = some (w.heap.size + 1) := fun e => by have := (HL1.out.row.block e).1; omega
        have x4 := ((Only.of_grown r2).cell (o := 4) (World.block_lt_of_cell? w5 _ v4) hown).trans v4
        have y4 := ((Only.of_grown r2).frozen (o := 4) (World.block_lt_of_cell? w5 _ v4) hown).trans q4
        have HL2 := hid (HL1.out.push hjl r1 r2)
        clear r1 r2 hown v0 v1 v2 v3 v4 q0 q1 q2 q3 q4
        refine HK.out _ _ x4 ?_
        clear HK K'
        try simp only [Act.put, List.setIfInBounds_toArray, List.set_cons_zero, List.set_cons_succ]
        refine AhdI.done (by kernel_rfl) ?_
        simp only [List.drop_succ_cons, List.drop_zero]
        go_wp2_with (go_at_call_of 44 (Value.int IntKind.u8 58); refine (HE58.out _ HL2.out.jt).mono ?_; rintro e w7 ⟨rfl, h1⟩; have HL3 := hid (HL2.out.moved hjl h1); clear h1)
        have HN3 : Hid ((done.map rd ++ [rd k]).length = n + 1) := hid (by have := HN.out; simp at this ⊢; exact this)
        clear HL2 HL1 HLQ hS0
        obtain ⟨c0, c1, c2, f1, le, -⟩ := HL3.out.jt
        obtain ⟨v0, v1, v2, v3, v4, q0, q1, q2, q3, q4⟩ := HL3.out.v5
        refine wp_region_ahd 8 (fun w' => w'.cell? ⟨w.heap.size + 1, 4, none⟩ = some (.slice A2 (n + 1) cap2)) (by kernel_rfl) ⟨by kernel_rfl, by kernel_rfl, by kernel_rfl, by kernel_rfl⟩ (by go_simp) ?_
        intro hS0 ok
        have OK := hid ok
        clear ok
        refine AhdI.take (i := 0) (v := ?_) OK.out (by simp only [List.getElem?_toArray, List.getElem?_cons_succ, List.getElem?_cons_zero]; rfl) (by simp) (by kernel_rfl) (by kernel_rfl) (by exact fun _ _ _ h => h) hS0 (Or.inl ⟨by rfl, ?_⟩) ?_
        rotate_left 1
        · intro w3 hSw
          have hSw : w3.cell? ⟨w.heap.size + 1, 4, none⟩ = some (.slice A2 (n + 1) cap2) := hSw
          go_simp
          try with_reducible rfl
        try simp only [Act.put, List.setIfInBounds_toArray, List.set_cons_zero, List.set_cons_succ]
        refine AhdI.take (i := 1) (v := ?_) OK.out (by simp only [List.getElem?_toArray, List.getElem?_cons_succ, List.getElem?_cons_zero]; rfl) (by simp) (by kernel_rfl) (by kernel_rfl) (by exact fun _ _ _ h => h) hS0 (Or.inl ⟨by rfl, ?_⟩) ?_
        rotate_left 1
        · intro w3 hSw
          have hSw : w3.cell? ⟨w.heap.size + 1, 4, none⟩ = some (.slice A2 (n + 1) cap2) := hSw
          go_simp
          try with_reducible rfl
        try simp only [Act.put, List.setIfInBounds_toArray, List.set_cons_zero, List.set_cons_succ]
        refine AhdI.take (i := 2) (v := ?_) OK.out (by simp only [List.getElem?_toArray, List.getElem?_cons_succ, List.getElem?_cons_zero]; rfl) (by simp) (by kernel_rfl) (by kernel_rfl) (by exact fun _ _ _ h => h) hS0 (Or.inl ⟨by rfl, ?_⟩) ?_
        rotate_left 1
        · intro w3 hSw
          have hSw : w3.cell? ⟨w.heap.size + 1, 4, none⟩ = some (.slice A2 (n + 1) cap2) := hSw
          go_simp
          try with_reducible rfl
        try simp only [Act.put, List.setIfInBounds_toArray, List.set_cons_zero, List.set_cons_succ]
        refine AhdI.take (i := 3) (v := ?_) OK.out (by simp only [List.getElem?_toArray, List.getElem?_cons_succ, List.getElem?_cons_zero]; rfl) (by simp) (by kernel_rfl) (by kernel_rfl) (by exact fun _ _ _ h => h) hS0 (Or.inl ⟨by rfl, ?_⟩) ?_
        rotate_left 1
        · intro w3 hSw
          have hSw : w3.cell? ⟨w.heap.size + 1, 4, none⟩ = some (.slice A2 (n + 1) cap2) := hSw
          go_simp
          try with_reducible rfl
        try simp only [Act.put, List.setIfInBounds_toArray, List.set_cons_zero, List.set_cons_succ]
        refine AhdI.take (i := 4) (v := ?_) OK.out (by simp only [List.getElem?_toArray, List.getElem?_cons_succ, List.getElem?_cons_zero]; rfl) (by simp) (by kernel_rfl) (by kernel_rfl) (by exact fun _ _ _ h => h) hS0 (Or.inl ⟨by rfl, ?_⟩) ?_
        rotate_left 1
        · intro w3 hSw
          have hSw : w3.cell? ⟨w.heap.size + 1, 4, none⟩ = some (.slice A2 (n + 1) cap2) := hSw
          go_simp
          try with_reducible rfl
        try simp only [Act.put, List.setIfInBounds_toArray, List.set_cons_zero, List.set_cons_succ]
        refine AhdI.one (i := 5) (by simp only [List.getElem?_toArray, List.getElem?_cons_succ, List.getElem?_cons_zero]; rfl) (by simp) (by kernel_rfl) (fun K' hK => ?_)
        have HK := hid hK
        clear hK
        go_simp
        refine (HCALL.out _ _ _ (HL3.out.same (Only.drew (Only.refl _ _)))).mono ?_
        intro e w9 hp
        obtain ⟨k1, n1, e1, t1, A1, l1, cc1, rfl, HQ, M3⟩ := hp.get
        have HL4 := hid ((HL3.out.same (Only.drew (Only.refl _ _))).moved hjl M3.out)
        clear hp v0 v1 v2 v3 v4 q0 q1 q2 q3 q4 c0 c1 c2 f1 hS0
        obtain ⟨v0, v1, v2, v3, v4, q0, q1, q2, q3, q4⟩ := HL4.out.v5
        refine HK.out _ _ v4 ?_
        clear HK K'
        try simp only [Act.put, List.setIfInBounds_toArray, List.set_cons_zero, List.set_cons_succ]
        refine AhdI.one (i := 6) (by simp only [List.getElem?_toArray, List.getElem?_cons_succ, List.getElem?_cons_zero]; rfl) (by simp) (by kernel_rfl) (fun K' hK => ?_)
        have HK := hid hK
        clear hK
        go_simp
        refine HK.out _ _ ((Only.cell (S := fun _ => False) (Only.alloc (Only.refl _ _) _) (World.block_lt_of_cell? w9 _ v4) (fun h => h)).trans v4) ?_
        clear HK K'
        try simp only [Act.put, List.setIfInBounds_toArray, List.set_cons_zero, List.set_cons_succ]
        refine AhdI.one (i := 7) (by simp only [List.getElem?_toArray, List.getElem?_cons_succ, List.getElem?_cons_zero]; rfl) (by simp) (by kernel_rfl) (fun K' hK => ?_)
        have HK := hid hK
        clear hK
        refine step_prow_push rfl _ _ rfl (w0 := w9) (base := w.heap.size + 2) (ok := fun k => w.heap.size + 2 ≤ k) (.slice A2 (n + 1) cap2) (done.map rd ++ [rd k]) rfl HL4.out.row (rd p) [.int .i64 k1, .int .u64 n1, .string t1, .int .i64 e1, .slice A1 l1 cc1] rfl rfl rfl (HQ.out.keep fun k hk hok => ⟨⟨by have := HL3.out.lt; have h2 : w7.heap.size ≤ k := hok; omega, fun e => by have := (HL3.out.row.block e).2; have h2 : w7.heap.size ≤ k := hok; omega⟩, rfl⟩) (fun k hk => by have := HL4.out.lt; omega) HL4.out.lt (by simp at hdl ⊢; omega) ?_
        intro v' w10 r1 r2
        obtain ⟨A3, cap3, rfl⟩ := r1.open' (n := n + 1 + 1) (by rw [List.length_append, HN3.out]; rfl)
        have hown : ¬ (Value.slice A2 (n + 1) cap2).ownBlock = some (w.heap.size + 1) := fun e => by have := (HL4.out.row.block e).1; omega
        have x4 := ((Only.of_grown r2).cell (o := 4) (World.block_lt_of_cell? w9 _ v4) hown).trans v4
        have y4 := ((Only.of_grown r2).frozen (o := 4) (World.block_lt_of_cell? w9 _ v4) hown).trans q4
        have HL5 := hid (HL4.out.push hjl r1 r2)
        clear r1 r2 hown v0 v1 v2 v3 v4 q0 q1 q2 q3 q4
        refine HK.out _ _ x4 ?_
        clear HK K'
        try simp only [Act.put, List.setIfInBounds_toArray, List.set_cons_zero, List.set_cons_succ]
        refine AhdI.done (by kernel_rfl) ?_
        simp only [List.drop_succ_cons, List.drop_zero]
        go_wp2_with (first
          | (go_at_call_of 44 (Value.int IntKind.u8 125); refine (HEN.out _ HL5.out.jt).mono ?_; rintro e w4 ⟨rfl, h1⟩; have H4 := hid (HL5.out.moved hjl h1); clear h1)
          | (go_at_call_of 44 (Value.int IntKind.u8 44); refine (HEC.out _ H4.out.jt).mono ?_; rintro e w5' ⟨rfl, h1⟩; have H5 := hid (H4.out.moved hjl h1); clear h1))
        go_roundg (gk - 1)
        case measure => simp at hgm; omega
        case rel =>
          refine ⟨done ++ [k, p], kn, pn, rest2, ak + 1 + (js p).length + 1, A3, n + 1 + 1, cap3, hid (by rw [HKS.out]; simp), hid (by have := HEVD.out; simp; omega), HAN, hid (by have := H5.out; simpa using this), by simp at hgm; omega, ?_⟩
          rw [jsMapT_cons] at hat
          simp at hat
          omega
end Go.Proofs.YtbgckolcimlofaaGreatDoor
