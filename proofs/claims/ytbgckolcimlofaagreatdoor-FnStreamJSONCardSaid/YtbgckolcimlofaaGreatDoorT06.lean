/-
  The function more of the source: it brings bytes ahead till n lie there; where as many are left.
-/
import Derived.Test.YtbgckolcimlofaaGreatDoorProg
import Derived.Test.YtbgckolcimlofaaGreatDoorT04
import Derived.Test.YtbgckolcimlofaaGreatDoorT05
set_option linter.unusedVariables false
set_option linter.unusedSimpArgs false
namespace Go.Proofs.YtbgckolcimlofaaGreatDoor
open Go.RowKit YtbgckolcimlofaaGreatDoorPj

theorem sp_of (g a : Nat) : Option.map (fun x : Addr => x.add a) (some ⟨g, 0, none⟩) = some ⟨g, a, none⟩ := by
  have := Addr.add_lit g 0 a
  rw [Nat.zero_add] at this
  exact congrArg some this
theorem Src.front_src {w : World} {F : Nat → Prop} {s at_ n cap : Nat} {A : Option Addr} {buf rest : List UInt8} (h : Src w F s (.slice A n cap) at_ buf rest) (SP : Option Addr) (hSP : at_ < buf.length → ∀ g, A = some ⟨g, 0, none⟩ → SP = some ⟨g, at_, none⟩)
    (h0 : 0 < (buf.drop at_).length) : ∃ g off cur, A = some ⟨g, off, none⟩ ∧ w.heap[g]? = some (.cells (List.toArray cur) 5 (0, 0)) ∧ off + (buf.drop at_).length ≤ cur.length ∧ ∃ ad, SP = some ad ∧ ∀ j (h : j < (buf.drop at_).length), w.cell? (ad.add j) = some (u8v (buf.drop at_)[j]) := by
  have hl : (buf.drop at_).length = buf.length - at_ := List.length_drop
  have hr := h.row
  rcases hr.open with ⟨_, e⟩ | ⟨g, c, e, _, hg, hc, _, hcell⟩
  · have : buf.length = 0 := by rw [e]; rfl
    omega
  · injection e with e1 e2 e3
    obtain ⟨g', cur, e4, hb, hgc, hl2, hn, ht, hcc, hm⟩ := hr.cur (by omega)
    refine ⟨g', 0, cur, e4, hgc, by omega, ⟨g', at_, none⟩, hSP (by omega) g' e4, fun j hj => ?_⟩
    rw [e1] at e4
    injection e4 with e4
    injection e4 with e4
    subst e4
    rw [Addr.add_lit, List.getElem_drop]
    exact hcell _ (by omega)
theorem Src.src_all {w : World} {F : Nat → Prop} {s at_ n cap : Nat} {A : Option Addr} {buf rest : List UInt8} (h : Src w F s (.slice A n cap) at_ buf rest) (h0 : 0 < buf.length) : ∃ ad, A = some ad ∧ ∀ j (h : j < buf.length), w.cell? (ad.add j) = some (u8v buf[j]) := by
  have hr := h.row
  rcases hr.open with ⟨_, e⟩ | ⟨g, c, e, _, hg, hc, _, hcell⟩
  · rw [e] at h0
    simp at h0
  · injection e with e1 e2 e3
    refine ⟨_, e1, fun j hj => ?_⟩
    rw [Addr.add_lit, Nat.zero_add]
    exact hcell j hj
theorem Src.n_eq {w : World} {F : Nat → Prop} {s at_ n cap : Nat} {A : Option Addr} {buf rest : List UInt8} (h : Src w F s (.slice A n cap) at_ buf rest) : n = buf.length := by
  rcases h.row.open with ⟨e, e2⟩ | ⟨g, c, e, _⟩
  · injection e with e1 e3 e4
    rw [e3, e2]
    rfl
  · injection e with e1 e2 e3
theorem make_src {w3 w4 : World} {F : Nat → Prop} {s n cap c : Nat} {A : Option Addr} {buf rest : List UInt8} (h : Src w3 F s (.slice A n cap) 0 buf rest) (hc : c = 2 * cap + 64) (hcap : c ≤ 8796093022272) (hw : w4 = (w3.alloc (.cells (madeCells #[.int .u8 0] c) 5)).drew) (hnc : n ≤ cap) :
    (0 < buf.length → ∃ g off cur, some (⟨w3.heap.size, 0, none⟩ : Addr) = some ⟨g, off, none⟩ ∧ w4.heap[g]? = some (.cells (List.toArray cur) 5 (0, 0)) ∧ off + buf.length ≤ cur.length ∧ ∃ ad, A = some ad ∧ ∀ j (h : j < buf.length), w4.cell? (ad.add j) = some (u8v buf[j])) ∧
    (∀ w5, Copied w4 w5 (some ⟨w3.heap.size, 0, none⟩) buf → Only (fun _ => False) w3 w5 ∧ Row w5 0 (.slice (some ⟨w3.heap.size, 0, none⟩) n c) buf) := by
  have hn := h.n_eq
  have hr4 : Row (w3.alloc (.cells (madeCells #[.int .u8 0] c) 5)) 0 (.slice (some ⟨w3.heap.size, 0, none⟩) n c) (List.replicate n 0) := Row.made w3 0 n c (Nat.zero_le _) (by omega) (by unfold maxLen; omega)
  have ho4 : Only (fun _ => False) w3 w4 := by rw [hw]; simp
  have hr4' : Row w4 0 (.slice (some ⟨w3.heap.size, 0, none⟩) n c) (List.replicate n 0) := by rw [hw]; exact hr4.only (Only.drew (Only.refl (fun _ => False) _)) (fun _ _ h => h)
  refine ⟨fun h0 => ?_, fun w5 h5 => ?_⟩
  · obtain ⟨g, cur, e, _, hg, hl, _⟩ := hr4'.cur (by omega)
    exact ⟨g, 0, cur, e, hg, by omega, (h.only ho4 (fun _ _ h => h)).src_all h0⟩
  · have ho5 : Only (fun k => k = w3.heap.size) w4 w5 := h5.only fun b off e _ => by injection e with e; injection e with e1 e2; exact e1.symm
    have hr5 := hr4'.copied (off := 0) h5 (fun g e => e) (Nat.zero_le _) (by omega)
    rw [Nat.zero_add, List.take_zero, List.nil_append, ← hn] at hr5
    exact ⟨ho4.trans' ho5 (fun i hi e => by have e : i = w3.heap.size := e; omega), hr5⟩
set_option maxRecDepth 100000 in
set_option maxHeartbeats 4000000 in
theorem more_reads (w : World) (F : Nat → Prop) (s at_ n : Nat) (room : Value) (buf rest : List UInt8) (h : Src w F s room at_ buf rest) (hn : buf.length < n + at_) (hle : n ≤ buf.length - at_ + rest.length) :
    Calls Tryz.prog 63 #[.pointer (some ⟨s, 0, none⟩), .int .i64 (n : Nat)] w (MorePost F s n (buf.drop at_ ++ rest) w) := by
  have HS := hid h
  obtain ⟨A, cap, rfl, hc1, hc2⟩ := h.room
  have c1 := h.c1
  have c2 := h.c2
  have c4 := h.c4
  have f1 := h.f1
  have f2 := h.f2
  have hat := h.hat
  have hbig := h.big
  have hb : buf.length ≤ 1099511627776 := by omega
  have hn2 : n ≤ 1099511627776 := by omega
  obtain ⟨C, hC⟩ : ∃ C, C = buf.drop at_ := ⟨_, rfl⟩
  have hCl : C.length ≤ cap := by rw [hC, List.length_drop]; omega
  have hCn : C.length < n := by rw [hC, List.length_drop]; omega
  have hCa : C.length + rest.length ≤ 1099511627776 := by rw [hC, List.length_drop]; omega
  have hCle : n ≤ C.length + rest.length := by rw [hC, List.length_drop]; omega
  have hCm : C.length = Nat.min (buf.length - at_) buf.length := by rw [hC, List.length_drop]; show _ = min _ _; omega
  have hSP : ∀ SP : Option Addr, (at_ < buf.length → ∀ g, A = some ⟨g, 0, none⟩ → SP = some ⟨g, at_, none⟩) → 0 < C.length → ∃ g off cur, A = some ⟨g, off, none⟩ ∧ w.heap[g]? = some (.cells (List.toArray cur) 5 (0, 0)) ∧ off + C.length ≤ cur.length ∧ ∃ ad, SP = some ad ∧ ∀ j (h : j < C.length), w.cell? (ad.add j) = some (u8v C[j]) := by
    subst hC
    exact fun SP hSP => h.front_src SP hSP
  have HSP := hid hSP
  have HC := hid hC
  clear hSP hC
  rw [← HC.out]
  clear h hbig
  generalize hB : buf.length = nb at hn c1 hc1 hb hat hle
  rw [hB] at hCm
  have HCM := hid hCm
  clear hCm
  have HB := hid hB
  clear hB
  have hw1 : IntKind.i64.wrap ((nb : Int) - (at_ : Int)) = (nb : Int) - at_ := IntWalk.i64_in _ (by omega)
  have hd1 : decide ((n : Int) ≤ (nb : Int) - at_) = false := by simp; omega
  have hsl := World.block_lt_of_cell? w _ c1
  have hdr : ∀ w0 w1, Copied w0 w1 A C → Only (fun k => ∃ off, A = some ⟨k, off, none⟩) w0 w1 := fun w0 w1 h => h.only fun b off e _ => ⟨off, e⟩
  have hAs : ¬ ∃ off, A = some ⟨s, off, none⟩ := fun ⟨off, e⟩ => (HS.out.own s (by rw [e]; rfl)).2 rfl
  have HDR := hid hdr
  have HAS := hid hAs
  clear hdr hAs
  go_enter Tryz.func63, Tryz.ntmps63
  go_wp2
  go_quiet (fail)
  go_upto_region 1 with fail
  go_cut [] (fun wx => ∃ w0 w1, Only (fun _ => False) w w0 ∧ Copied w0 w1 A C ∧ wx = w1.setCell ⟨s, 1, none⟩ (.slice A C.length cap))
  case first =>
    refine wp_region_ahd 20 (fun w' => w'.cell? ⟨s, 1, none⟩ = some (.slice A nb cap) ∧ w'.cell? ⟨s, 2, none⟩ = some (.int .i64 (at_ : Nat))) (by kernel_rfl) ⟨by kernel_rfl, by kernel_rfl, by kernel_rfl, by kernel_rfl⟩ ⟨by go_simp, by go_simp⟩ ?_
    intro hS0 ok
    have OK := hid ok
    clear ok
    refine AhdI.take (i := 0) (v := ?_) OK.out (by simp only [List.getElem?_toArray, List.getElem?_cons_succ, List.getElem?_cons_zero]; rfl) (by simp) (by kernel_rfl) (by kernel_rfl) (by exact fun _ _ _ h => h) (by assumption) (Or.inl ⟨by rfl, ?_⟩) ?_
    rotate_left 1
    · intro w hSw
      obtain ⟨hS1, hS2⟩ := hSw
      go_simp
      try with_reducible rfl
    try simp only [Act.put, List.setIfInBounds_toArray, List.set_cons_zero, List.set_cons_succ]
    refine AhdI.take (i := 1) (v := ?_) OK.out (by simp only [List.getElem?_toArray, List.getElem?_cons_succ, List.getElem?_cons_zero]; rfl) (by simp) (by kernel_rfl) (by kernel_rfl) (by exact fun _ _ _ h => h) (by assumption) (Or.inl ⟨by rfl, ?_⟩) ?_
    rotate_left 1
    · intro w hSw
      obtain ⟨hS1, hS2⟩ := hSw
      go_simp
      try with_reducible rfl
    try simp only [Act.put, List.setIfInBounds_toArray, List.set_cons_zero, List.set_cons_succ]
    refine AhdI.take (i := 2) (v := ?_) OK.out (by simp only [List.getElem?_toArray, List.getElem?_cons_succ, List.getElem?_cons_zero]; rfl) (by simp) (by kernel_rfl) (by kernel_rfl) (by exact fun _ _ _ h => h) (by assumption) (Or.inl ⟨by rfl, ?_⟩) ?_
    rotate_left 1
    · intro w hSw
      obtain ⟨hS1, hS2⟩ := hSw
      go_simp
      try with_reducible rfl
    try simp only [Act.put, List.setIfInBounds_toArray, List.set_cons_zero, List.set_cons_succ]
    refine AhdI.take (i := 3) (v := ?_) OK.out (by simp only [List.getElem?_toArray, List.getElem?_cons_succ, List.getElem?_cons_zero]; rfl) (by simp) (by kernel_rfl) (by kernel_rfl) (by exact fun _ _ _ h => h) (by assumption) (Or.inl ⟨by rfl, ?_⟩) ?_
    rotate_left 1
    · intro w hSw
      obtain ⟨hS1, hS2⟩ := hSw
      go_simp
      try with_reducible rfl
    try simp only [Act.put, List.setIfInBounds_toArray, List.set_cons_zero, List.set_cons_succ]
    refine AhdI.take (i := 4) (v := ?_) OK.out (by simp only [List.getElem?_toArray, List.getElem?_cons_succ, List.getElem?_cons_zero]; rfl) (by simp) (by kernel_rfl) (by kernel_rfl) (by exact fun _ _ _ h => h) (by assumption) (Or.inl ⟨by rfl, ?_⟩) ?_
    rotate_left 1
    · intro w hSw
      obtain ⟨hS1, hS2⟩ := hSw
      go_simp
      try with_reducible rfl
    try simp only [Act.put, List.setIfInBounds_toArray, List.set_cons_zero, List.set_cons_succ]
    refine AhdI.take (i := 5) (v := ?_) OK.out (by simp only [List.getElem?_toArray, List.getElem?_cons_succ, List.getElem?_cons_zero]; rfl) (by simp) (by kernel_rfl) (by kernel_rfl) (by exact fun _ _ _ h => h) (by assumption) (Or.inl ⟨by rfl, ?_⟩) ?_
    rotate_left 1
    · intro w hSw
      obtain ⟨hS1, hS2⟩ := hSw
      go_simp
      try with_reducible rfl
    try simp only [Act.put, List.setIfInBounds_toArray, List.set_cons_zero, List.set_cons_succ]
    refine AhdI.take (i := 6) (v := ?_) OK.out (by simp only [List.getElem?_toArray, List.getElem?_cons_succ, List.getElem?_cons_zero]; rfl) (by simp) (by kernel_rfl) (by kernel_rfl) (by exact fun _ _ _ h => h) (by assumption) (Or.inl ⟨by rfl, ?_⟩) ?_
    rotate_left 1
    · intro w hSw
      obtain ⟨hS1, hS2⟩ := hSw
      go_simp
      try with_reducible rfl
    try simp only [Act.put, List.setIfInBounds_toArray, List.set_cons_zero, List.set_cons_succ]
    refine AhdI.take (i := 7) (v := ?_) OK.out (by simp only [List.getElem?_toArray, List.getElem?_cons_succ, List.getElem?_cons_zero]; rfl) (by simp) (by kernel_rfl) (by kernel_rfl) (by exact fun _ _ _ h => h) (by assumption) (Or.inl ⟨by rfl, ?_⟩) ?_
    rotate_left 1
    · intro w hSw
      obtain ⟨hS1, hS2⟩ := hSw
      go_simp
      try with_reducible rfl
    try simp only [Act.put, List.setIfInBounds_toArray, List.set_cons_zero, List.set_cons_succ]
    refine AhdI.take (i := 8) (v := ?_) OK.out (by simp only [List.getElem?_toArray, List.getElem?_cons_succ, List.getElem?_cons_zero]; rfl) (by simp) (by kernel_rfl) (by kernel_rfl) (by exact fun _ _ _ h => h) (by assumption) (Or.inl ⟨by rfl, ?_⟩) ?_
    rotate_left 1
    · intro w hSw
      obtain ⟨hS1, hS2⟩ := hSw
      go_simp
      try with_reducible rfl
    try simp only [Act.put, List.setIfInBounds_toArray, List.set_cons_zero, List.set_cons_succ]
    refine AhdI.take (i := 9) (v := ?_) OK.out (by simp only [List.getElem?_toArray, List.getElem?_cons_succ, List.getElem?_cons_zero]; rfl) (by simp) (by kernel_rfl) (by kernel_rfl) (by exact fun _ _ _ h => h) (by assumption) (Or.inl ⟨by rfl, ?_⟩) ?_
    rotate_left 1
    · intro w hSw
      obtain ⟨hS1, hS2⟩ := hSw
      go_simp
      try with_reducible rfl
    try simp only [Act.put, List.setIfInBounds_toArray, List.set_cons_zero, List.set_cons_succ]
    refine AhdI.take (i := 10) (v := ?_) OK.out (by simp only [List.getElem?_toArray, List.getElem?_cons_succ, List.getElem?_cons_zero]; rfl) (by simp) (by kernel_rfl) (by kernel_rfl) (by exact fun _ _ _ h => h) (by assumption) (Or.inl ⟨by rfl, ?_⟩) ?_
    rotate_left 1
    · intro w hSw
      obtain ⟨hS1, hS2⟩ := hSw
      go_simp
      try with_reducible rfl
    try simp only [Act.put, List.setIfInBounds_toArray, List.set_cons_zero, List.set_cons_succ]
    refine AhdI.take (i := 11) (v := ?_) OK.out (by simp only [List.getElem?_toArray, List.getElem?_cons_succ, List.getElem?_cons_zero]; rfl) (by simp) (by kernel_rfl) (by kernel_rfl) (by exact fun _ _ _ h => h) (by assumption) (Or.inl ⟨by rfl, ?_⟩) ?_
    rotate_left 1
    · intro w hSw
      obtain ⟨hS1, hS2⟩ := hSw
      go_simp
      try with_reducible rfl
    try simp only [Act.put, List.setIfInBounds_toArray, List.set_cons_zero, List.set_cons_succ]
    refine AhdI.take (i := 12) (v := ?_) OK.out (by simp only [List.getElem?_toArray, List.getElem?_cons_succ, List.getElem?_cons_zero]; rfl) (by simp) (by kernel_rfl) (by kernel_rfl) (by exact fun _ _ _ h => h) (by assumption) (Or.inl ⟨by rfl, ?_⟩) ?_
    rotate_left 1
    · intro w hSw
      obtain ⟨hS1, hS2⟩ := hSw
      go_simp
      try with_reducible rfl
    try simp only [Act.put, List.setIfInBounds_toArray, List.set_cons_zero, List.set_cons_succ]
    refine AhdI.take (i := 13) (v := ?_) OK.out (by simp only [List.getElem?_toArray, List.getElem?_cons_succ, List.getElem?_cons_zero]; rfl) (by simp) (by kernel_rfl) (by kernel_rfl) (by exact fun _ _ _ h => h) (by assumption) (Or.inl ⟨by rfl, ?_⟩) ?_
    rotate_left 1
    · intro w hSw
      obtain ⟨hS1, hS2⟩ := hSw
      go_simp
      try with_reducible rfl
    try simp only [Act.put, List.setIfInBounds_toArray, List.set_cons_zero, List.set_cons_succ]
    refine AhdI.take (i := 14) (v := ?_) OK.out (by simp only [List.getElem?_toArray, List.getElem?_cons_succ, List.getElem?_cons_zero]; rfl) (by simp) (by kernel_rfl) (by kernel_rfl) (by exact fun _ _ _ h => h) (by assumption) (Or.inl ⟨by rfl, ?_⟩) ?_
    rotate_left 1
    · intro w hSw
      obtain ⟨hS1, hS2⟩ := hSw
      go_simp
      try with_reducible rfl
    try simp only [Act.put, List.setIfInBounds_toArray, List.set_cons_zero, List.set_cons_succ]
    refine AhdI.take (i := 15) (v := ?_) OK.out (by simp only [List.getElem?_toArray, List.getElem?_cons_succ, List.getElem?_cons_zero]; rfl) (by simp) (by kernel_rfl) (by kernel_rfl) (by exact fun _ _ _ h => h) (by assumption) (Or.inl ⟨by rfl, ?_⟩) ?_
    rotate_left 1
    · intro w hSw
      obtain ⟨hS1, hS2⟩ := hSw
      go_simp
      try with_reducible rfl
    try simp only [Act.put, List.setIfInBounds_toArray, List.set_cons_zero, List.set_cons_succ]
    refine AhdI.take (i := 16) (v := ?_) OK.out (by simp only [List.getElem?_toArray, List.getElem?_cons_succ, List.getElem?_cons_zero]; rfl) (by simp) (by kernel_rfl) (by kernel_rfl) (by exact fun _ _ _ h => h) (by assumption) (Or.inl ⟨by rfl, ?_⟩) ?_
    rotate_left 1
    · intro w hSw
      obtain ⟨hS1, hS2⟩ := hSw
      go_simp
      try with_reducible rfl
    try simp only [Act.put, List.setIfInBounds_toArray, List.set_cons_zero, List.set_cons_succ]
    refine AhdI.take (i := 17) (v := ?_) OK.out (by simp only [List.getElem?_toArray, List.getElem?_cons_succ, List.getElem?_cons_zero]; rfl) (by simp) (by kernel_rfl) (by kernel_rfl) (by exact fun _ _ _ h => h) (by assumption) (Or.inl ⟨by rfl, ?_⟩) ?_
    rotate_left 1
    · intro w hSw
      obtain ⟨hS1, hS2⟩ := hSw
      go_simp
      try with_reducible rfl
    try simp only [Act.put, List.setIfInBounds_toArray, List.set_cons_zero, List.set_cons_succ]
    refine AhdI.one (i := 18) (by simp only [List.getElem?_toArray, List.getElem?_cons_succ, List.getElem?_cons_zero]; rfl) (by simp) (by kernel_rfl) (fun K' hK => ?_)
    refine step_copy_gen rfl _ _ rfl _ _ _ _ _ _ rfl rfl C HCM.out (HSP.out _ (fun h g e => by have := HB.out; first | (rw [if_neg (by omega), e]; exact sp_of g at_) | (exfalso; omega) | (rw [e]; exact sp_of g at_))) ?_
    intro w1 h1
    have H1 := hid h1
    have h2 := HDR.out _ w1 h1
    have k1 := (h2.cell (o := 1) hsl HAS.out).trans c1
    have k2 := (h2.cell (o := 2) hsl HAS.out).trans c2
    have kf1 := (h2.frozen (o := 1) hsl HAS.out).trans f1
    have kf2 := (h2.frozen (o := 2) hsl HAS.out).trans f2
    clear h1 h2 hS0
    have hS0 : (fun w' : World => w'.cell? ⟨s, 1, none⟩ = some (.slice A nb cap) ∧ w'.cell? ⟨s, 2, none⟩ = some (.int .i64 (at_ : Nat))) w1 := ⟨k1, k2⟩
    refine hK _ _ hS0 ?_
    clear hK K'
    try simp only [Act.put, List.setIfInBounds_toArray, List.set_cons_zero, List.set_cons_succ]
    refine AhdI.take (i := 19) (v := ?_) OK.out (by simp only [List.getElem?_toArray, List.getElem?_cons_succ, List.getElem?_cons_zero]; rfl) (by simp) (by kernel_rfl) (by kernel_rfl) (by exact fun _ _ _ h => h) (by assumption) (Or.inl ⟨by rfl, ?_⟩) ?_
    rotate_left 1
    · intro w hSw
      obtain ⟨hS1, hS2⟩ := hSw
      go_simp
      try with_reducible rfl
    try simp only [Act.put, List.setIfInBounds_toArray, List.set_cons_zero, List.set_cons_succ]
    refine AhdI.done (by kernel_rfl) ?_
    simp only [List.drop_succ_cons, List.drop_zero]
    all_goals go_wp2_with fail
    all_goals go_meet
    all_goals
      refine ⟨(w.drewN nq).drew, w1, by simp, H1.out, ?_⟩
      first
        | rfl
        | (have hce : cap = at_ := by assumption
           rw [hce])
  case rest =>
    obtain ⟨w0, w1, h0, h1, rfl⟩ := hcut
    have h2 := HDR.out _ w1 h1
    have hs0 := HS.out.only h0 (fun _ _ h => h)
    have k2 := (h2.cell (o := 2) (hs0.lt s hs0.fs) HAS.out).trans hs0.c2
    have kf2 := (h2.frozen (o := 2) (hs0.lt s hs0.fs) HAS.out).trans hs0.f2
    have hfr := hs0.front (HC.out ▸ h1)
    rw [← HC.out] at hfr
    obtain ⟨hsrc, hon⟩ := hfr
    have hon2 : Only F w _ := (h0.mono fun _ _ h => h.elim).trans hon
    clear h0 h1 h2 hs0 hon
    go_wp2
    generalize hW : (w1.setCell ⟨s, 1, none⟩ (.slice A C.length cap)).setCell ⟨s, 2, none⟩ (.int .i64 0) = w2 at hsrc hon2 ⊢
    have HS2 := hid hsrc
    have HO2 := hid hon2
    clear hsrc hon2 hW c1 c2 c4 f1 f2 k2 kf2
    go_loopg [4] (rest.length + 1) (fun m v4 wr => ∃ F' room buf' rest', Hid (Src wr F' s room 0 buf' rest') ∧ Hid (buf' ++ rest' = C ++ rest) ∧ rest'.length + 1 = m ∧ Hid (Newer F F' w) ∧ Hid (Only F w wr))
    case atStart => exact ⟨F, _, C, rest, HS2, hid rfl, rfl, hid (Newer.refl _ _), HO2⟩
    case round =>
      obtain ⟨F', room, buf', rest', HSR, HEQ, hm, HN, HO⟩ := hrel
      obtain ⟨A', cap', rfl, hc1', hc2'⟩ := HSR.out.room
      have c1 := HSR.out.c1
      have c3 := HSR.out.c3
      have c4 := HSR.out.c4
      have hlen : buf'.length + rest'.length = C.length + rest.length := by rw [← List.length_append, HEQ.out, List.length_append]
      generalize hB' : buf'.length = nb' at c1 hc1' hlen
      have HB' := hid hB'
      clear hB'
      by_cases hlt : nb' < n
      · have hr0 : 0 < rest'.length := by omega
        have hw4 : IntKind.i64.wrap ((cap' : Int) - (nb' : Int)) = (cap' : Int) - nb' := IntWalk.i64_in _ (by omega)
        have hw5 : IntKind.i64.wrap (2 * (cap' : Int)) = 2 * (cap' : Int) := IntWalk.i64_in _ (by omega)
        have hw6 : IntKind.i64.wrap (2 * (cap' : Int) + 64) = 2 * (cap' : Int) + 64 := IntWalk.i64_in _ (by omega)
        by_cases hg : cap' < nb' + 64
        · have hd4 : decide ((cap' : Int) - nb' < 64) = true := by simp; omega
          go_wp2
          go_quiet (fail)
          have hs3 : Src (wr.drewN nq) F' s _ 0 buf' rest' := HSR.out.only (Only.drewN (Only.refl (fun _ => False) _) _) (fun _ _ h => h)
          have ho3 : Only F w (wr.drewN nq) := HO.out.drewN nq
          generalize wr.drewN nq = w3 at hs3 ho3 ⊢
          have c1 := hs3.c1
          have c3 := hs3.c3
          have f1 := hs3.f1
          rw [HB'.out] at c1
          have HS3 := hid hs3
          have HO3 := hid ho3
          have hsl3 := hs3.lt s hs3.fs
          clear hs3 ho3
          have hmk : ∀ w : World, (Instr.makeSlice 29 (.int .i64 (nb' : Nat)) (.int .i64 (2 * (cap' : Int) + 64))).run Tryz.prog w = .ok (.slice (some ⟨w.heap.size, 0, none⟩) nb' (2 * cap' + 64)) (w.alloc (.cells (madeCells #[.int .u8 0] (2 * cap' + 64)) 5)) := fun w => (by
            have := run_make_bytes w nb' (2 * cap' + 64) (by omega) (by omega)
            have e : ((2 * cap' + 64 : Nat) : Int) = 2 * (cap' : Int) + 64 := by omega
            rwa [e] at this)
          go_wp2
          go_region_held3 (fun w' => w'.cell? ⟨s, 1, none⟩ = some (.slice A' nb' cap') ∧ w'.cell? ⟨s, 3, none⟩ = some (.int .i64 64)) (go_keep)
            (fail)
          clear hmk
          generalize hw4e : (w3.alloc (.cells (madeCells #[.int .u8 0] (2 * cap' + 64)) 5)).drew = w4
          have hms := make_src (HB'.out ▸ HS3.out) rfl (by omega) hw4e.symm hc1'
          have ho4 : Only (fun _ => False) w3 w4 := by rw [← hw4e]; simp
          have HM1 := hid hms.1
          have HM2 := hid hms.2
          have c1 := (ho4.cell (o := 1) hsl3 (fun h => h)).trans c1
          clear hms ho4 hw4e
          go_wp2_with (refine copy_gen (o := ⟨some 101, _, _, _, _, _⟩) rfl (.tmp 96) (.tmp 100) rfl _ _ _ _ _ _ rfl rfl buf' (by rw [HB'.out]; exact (Nat.min_self _).symm) HM1.out ?_; intro w5 h5; have h6 := HM2.out _ h5; have k1 := (h6.1.cell (o := 1) hsl3 (fun h => h)).trans HS3.out.c1; have kf1 := (h6.1.frozen (o := 1) hsl3 (fun h => h)).trans f1; have H6 := hid h6; clear h5 h6)
          obtain ⟨h6, h7⟩ := H6.out
          have hgr := Src.grow (HB'.out ▸ HS3.out) h6 h7 (Nat.le_refl _) (by omega)
          have ho6 : Only F w _ := HO3.out.trans' hgr.2 (fun i hi h => by rcases HN.out i h with h | h; exact h; omega)
          have hn6 : Newer F (fun k => F' k ∨ k = w3.heap.size) w := fun k h => by rcases h with h | rfl; exact HN.out k h; exact Or.inr HO3.out.size
          have hs6 := hgr.1
          go_wp2
          have hc9 : nb' + 64 ≤ 2 * cap' + 64 := by omega
          generalize w5.setCell ⟨s, 1, none⟩ (.slice (some ⟨w3.heap.size, 0, none⟩) nb' (2 * cap' + 64)) = w9 at hs6 ho6 ⊢
          generalize (fun k => F' k ∨ k = w3.heap.size) = F9 at hs6 hn6
          generalize w3.heap.size = g9 at hs6
          generalize 2 * cap' + 64 = c9 at hs6 hc9
          have HS9 := hid hs6
          have HO9 := hid ho6
          have HN9 := hid hn6
          clear h6 h7 hgr hs6 ho6 hn6 H6 HM1 HM2 k1 kf1 c1 c3 f1
          obtain ⟨d, E, c0, e1, e2, e3, e4, e5, e6, e7⟩ := HS9.out.c0
          obtain ⟨g', cur, eA, -, hgc, hcl, hcn, hct, hcc, hcm⟩ := HS9.out.row.cur (by omega)
          obtain rfl : g9 = g' := by injection eA with eA; injection eA
          have hcb : c9 ≤ 4398046511104 := HS9.out.cap _ _ _ rfl
          have c1 := HS9.out.c1
          have c3 := HS9.out.c3
          have c4 := HS9.out.c4
          have f1 := HS9.out.f1
          have f4 := HS9.out.f4
          have hsl9 := HS9.out.lt s HS9.out.fs
          have hgs := (HS9.out.own g9 rfl).2
          have HRD := hid (fun (w' : World) (h : Only (fun _ => False) w9 w') (pc : Nat) => dropsRead d g9 nb' pc E cur rest' w' (e1.only h (fun h => h) (fun _ _ h => h)) hr0 ((h.block g9 (Array.getElem?_eq_some_iff.1 hgc).1 (fun h => h)).trans hgc) (by omega) (fun e => (e7 g9 rfl).1 e.symm) e4 (e7 g9 rfl).2)
          have HP := hid (⟨c0, e1, e2, e3, e4, e5, e6, e7⟩ : w9.cell? ⟨s, 0, none⟩ = some (.iface 65 (.pointer (some ⟨d, 0, none⟩))) ∧ DropsAt w9 d E rest' ∧ F9 d ∧ d ≠ s ∧ ¬ E d ∧ ¬ E s ∧ (∀ k, E k → F9 k) ∧ (∀ k, (Value.slice (some ⟨g9, 0, none⟩) nb' c9).ownBlock = some k → k ≠ d ∧ ¬ E k))
          have HGC := hid hgc
          have HCT := hid hct
          have HCL := hid hcl
          have HCN := hid hcn
          have hns : ¬ (s = g9 ∨ s = d) := fun e => (by rcases e with e | e; exact hgs e.symm; exact e3 e.symm)
          have HNS := hid hns
          have hw7 : IntKind.i64.wrap ((nb' : Int) + 64) = (nb' : Int) + 64 := IntWalk.i64_in _ (by omega)
          clear e1 e2 e3 e4 e5 e6 e7 eA hgc hcl hcn hct hns
          have hw8 : (nb' : Int) + 64 ≤ (c9 : Int) := by omega
          have hw9 : ¬ c9 = nb' := by omega
          have hw10 : (0 : Int) ≤ (nb' : Int) := by omega
          have hw11 : (nb' : Int) ≤ (nb' : Int) + 64 := by omega
          go_region_held3 (fun w' => w'.cell? ⟨s, 0, none⟩ = some (.iface 65 (.pointer (some ⟨d, 0, none⟩))) ∧ w'.cell? ⟨s, 1, none⟩ = some (.slice (some ⟨g9, 0, none⟩) nb' c9) ∧ w'.cell? ⟨s, 3, none⟩ = some (.int .i64 64)) (go_keep)
            (first
              | (go_at_call 199; rw [show ((nb' : Int) + 64).toNat - nb' = 64 from (by omega)]; refine (HRD.out _ (by simp) _).mono ?_; rintro e w10 ⟨rfl, h1, h2, h3⟩; have h3' : Only (fun b => b = g9 ∨ b = d) w9 w10 := ((Only.drew (Only.refl _ _)).trans h3); have k0 := (h3'.cell (o := 0) hsl9 HNS.out).trans c0; have k1 := (h3'.cell (o := 1) hsl9 HNS.out).trans c1; have k3 := (h3'.cell (o := 3) hsl9 HNS.out).trans c3; have k4 := (h3'.cell (o := 4) hsl9 HNS.out).trans c4; have kf1 := (h3'.frozen (o := 1) hsl9 HNS.out).trans f1; have kf4 := (h3'.frozen (o := 4) hsl9 HNS.out).trans f4; generalize hT : List.take 64 rest' = T at h1 ⊢; have hT1 : T.length ≤ 64 := (by rw [← hT, List.length_take]; omega); have hT2 : 1 ≤ T.length := (by rw [← hT, List.length_take]; omega); have HT := hid hT; have H1 := hid h1; have H2 := hid h2; have H3 := hid h3'; clear h1 h2 h3 h3' hT))
          go_wp2
          all_goals
            go_roundg ((rest'.drop 64).length + 1)
            case measure => rw [List.length_drop]; omega
            case rel =>
              have htk := HS9.out.took HP.out HT.out.symm HGC.out HCL.out HCT.out HCN.out hc9 hcm H1.out H2.out H3.out
              refine ⟨F9, _, buf' ++ T, rest'.drop 64, hid htk.1, hid ?_, rfl, HN9, hid (HO9.out.trans' htk.2 (fun i hi h => by rcases HN9.out i h with h | h; exact h; omega))⟩
              rw [← HEQ.out, List.append_assoc, ← HT.out, List.take_append_drop]
        · have hd4 : decide ((cap' : Int) - nb' < 64) = false := by simp; omega
          go_wp2
          go_quiet (fail)
          have hs3 : Src (wr.drewN nq) F' s _ 0 buf' rest' := HSR.out.only (Only.drewN (Only.refl (fun _ => False) _) _) (fun _ _ h => h)
          have ho3 : Only F w (wr.drewN nq) := HO.out.drewN nq
          go_wp2
          have hc9 : nb' + 64 ≤ cap' := by omega
          obtain ⟨g9, cur, rfl, -⟩ := hs3.row.cur (by omega)
          rw [HB'.out] at hs3
          obtain ⟨c9, hc9e⟩ : ∃ c9, c9 = cap' := ⟨_, rfl⟩
          rw [← hc9e] at hs3 hc9
          clear hc9e
          generalize wr.drewN nq = w9 at hs3 ho3 ⊢
          have HS9 := hid hs3
          have HO9 := hid ho3
          have HN9 := HN
          generalize F' = F9 at HS9 HN9
          clear hs3 ho3 c1 c3
          obtain ⟨d, E, c0, e1, e2, e3, e4, e5, e6, e7⟩ := HS9.out.c0
          obtain ⟨g', cur, eA, -, hgc, hcl, hcn, hct, hcc, hcm⟩ := HS9.out.row.cur (by omega)
          obtain rfl : g9 = g' := by injection eA with eA; injection eA
          have hcb : c9 ≤ 4398046511104 := HS9.out.cap _ _ _ rfl
          have c1 := HS9.out.c1
          have c3 := HS9.out.c3
          have c4 := HS9.out.c4
          have f1 := HS9.out.f1
          have f4 := HS9.out.f4
          have hsl9 := HS9.out.lt s HS9.out.fs
          have hgs := (HS9.out.own g9 rfl).2
          have HRD := hid (fun (w' : World) (h : Only (fun _ => False) w9 w') (pc : Nat) => dropsRead d g9 nb' pc E cur rest' w' (e1.only h (fun h => h) (fun _ _ h => h)) hr0 ((h.block g9 (Array.getElem?_eq_some_iff.1 hgc).1 (fun h => h)).trans hgc) (by omega) (fun e => (e7 g9 rfl).1 e.symm) e4 (e7 g9 rfl).2)
          have HP := hid (⟨c0, e1, e2, e3, e4, e5, e6, e7⟩ : w9.cell? ⟨s, 0, none⟩ = some (.iface 65 (.pointer (some ⟨d, 0, none⟩))) ∧ DropsAt w9 d E rest' ∧ F9 d ∧ d ≠ s ∧ ¬ E d ∧ ¬ E s ∧ (∀ k, E k → F9 k) ∧ (∀ k, (Value.slice (some ⟨g9, 0, none⟩) nb' c9).ownBlock = some k → k ≠ d ∧ ¬ E k))
          have HGC := hid hgc
          have HCT := hid hct
          have HCL := hid hcl
          have HCN := hid hcn
          have hns : ¬ (s = g9 ∨ s = d) := fun e => (by rcases e with e | e; exact hgs e.symm; exact e3 e.symm)
          have HNS := hid hns
          have hw7 : IntKind.i64.wrap ((nb' : Int) + 64) = (nb' : Int) + 64 := IntWalk.i64_in _ (by omega)
          clear e1 e2 e3 e4 e5 e6 e7 eA hgc hcl hcn hct hns
          have hw8 : (nb' : Int) + 64 ≤ (c9 : Int) := by omega
          have hw9 : ¬ c9 = nb' := by omega
          have hw10 : (0 : Int) ≤ (nb' : Int) := by omega
          have hw11 : (nb' : Int) ≤ (nb' : Int) + 64 := by omega
          go_region_held3 (fun w' => w'.cell? ⟨s, 0, none⟩ = some (.iface 65 (.pointer (some ⟨d, 0, none⟩))) ∧ w'.cell? ⟨s, 1, none⟩ = some (.slice (some ⟨g9, 0, none⟩) nb' c9) ∧ w'.cell? ⟨s, 3, none⟩ = some (.int .i64 64)) (go_keep)
            (first
              | (go_at_call 199; rw [show ((nb' : Int) + 64).toNat - nb' = 64 from (by omega)]; refine (HRD.out _ (by simp) _).mono ?_; rintro e w10 ⟨rfl, h1, h2, h3⟩; have h3' : Only (fun b => b = g9 ∨ b = d) w9 w10 := ((Only.drew (Only.refl _ _)).trans h3); have k0 := (h3'.cell (o := 0) hsl9 HNS.out).trans c0; have k1 := (h3'.cell (o := 1) hsl9 HNS.out).trans c1; have k3 := (h3'.cell (o := 3) hsl9 HNS.out).trans c3; have k4 := (h3'.cell (o := 4) hsl9 HNS.out).trans c4; have kf1 := (h3'.frozen (o := 1) hsl9 HNS.out).trans f1; have kf4 := (h3'.frozen (o := 4) hsl9 HNS.out).trans f4; generalize hT : List.take 64 rest' = T at h1 ⊢; have hT1 : T.length ≤ 64 := (by rw [← hT, List.length_take]; omega); have hT2 : 1 ≤ T.length := (by rw [← hT, List.length_take]; omega); have HT := hid hT; have H1 := hid h1; have H2 := hid h2; have H3 := hid h3'; clear h1 h2 h3 h3' hT))
          go_wp2
          all_goals
            go_roundg ((rest'.drop 64).length + 1)
            case measure => rw [List.length_drop]; omega
            case rel =>
              have htk := HS9.out.took HP.out HT.out.symm HGC.out HCL.out HCT.out HCN.out hc9 hcm H1.out H2.out H3.out
              refine ⟨F9, _, buf' ++ T, rest'.drop 64, hid htk.1, hid ?_, rfl, HN9, hid (HO9.out.trans' htk.2 (fun i hi h => by rcases HN9.out i h with h | h; exact h; omega))⟩
              rw [← HEQ.out, List.append_assoc, ← HT.out, List.take_append_drop]
      · go_wp2
        go_end0
        refine ⟨rfl, F', _, 0, buf', rest', HSR.out, ?_, by have := HB'.out; omega, HN.out, HO.out⟩
        rw [List.drop_zero]
        exact HEQ.out
end Go.Proofs.YtbgckolcimlofaaGreatDoor
