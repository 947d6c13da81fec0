/-
  EncodedLen and the Close of the encoder; within the bound.
  NewEncoder; no conditions.
  NewEncoding: the table of an alphabet; for the standard alphabet.
  io.ReadFull from the reader; where as many bytes are left.
-/
import Derived.Test.YtbgckolcimlofaaGreatDoorProg
import Derived.Test.YtbgckolcimlofaaGreatDoorT34
import Derived.Lib.LazyBuf
import Derived.StillTailTactics
import Derived.Test.YtbgckolcimlofaaGreatDoorT11
import Derived.Deep.RegionHeld3
set_option linter.unusedVariables false
set_option linter.unusedSimpArgs false
namespace Go.Proofs.YtbgckolcimlofaaGreatDoor
open Go.RowKit YtbgckolcimlofaaGreatDoorPj

set_option maxRecDepth 100000 in
set_option maxHeartbeats 1000000 in
theorem encodedLen (e n : Nat) (hn : 1 ≤ n) (hn2 : n ≤ 3) (w : World) (he : EncAt w e) : Calls Tryz.prog 213 #[.pointer (some ⟨e, 0, none⟩), .int .i64 (n : Nat)] w (fun en w' => en = .returned (.int .i64 4) ∧ w = w') := by
  have k9 := he.pad
  have hz : ((n : Int) + 2) / 3 * 4 = 4 := by omega
  have HZ := hid hz
  clear hz he
  go_enter Tryz.func213, Tryz.ntmps213
  go_wp2
  go_ret
  exact ⟨ret_int HZ.out, rfl⟩
set_option maxRecDepth 100000 in
set_option maxHeartbeats 4000000 in
theorem encClose_0 (q e t : Nat) (w : World) (hq : EncdAt w q e t []) :
    Calls Tryz.prog 210 #[.pointer (some ⟨q, 0, none⟩)] w (fun en w' => en = .returned .nilIface ∧ Only (fun _ => False) w w') := by
  have c0 := hq.c0
  have c6 : w.cell? ⟨q, 6, none⟩ = some (.int .i64 0) := hq.c6
  clear hq
  go_enter Tryz.func210, Tryz.ntmps210
  go_wp2
  go_ret
  exact ⟨rfl, by simp⟩
set_option maxRecDepth 100000 in
set_option maxHeartbeats 4000000 in
theorem encClose_n (q e t : Nat) (tail : List UInt8) (G : Nat → Prop) (out : List UInt8) (w : World) (ht : Txt w G t out) (hq : EncdAt w q e t tail) (he : EncAt w e) (n : Nat) (hn : tail.length = n) (hn1 : 1 ≤ n) (hn2 : n ≤ 2) (hGq : ¬ G q) (hGe : ¬ G e) (heq : e ≠ q) (hl : out.length ≤ 34184372088832) :
    Calls Tryz.prog 210 #[.pointer (some ⟨q, 0, none⟩)] w (fun en w' => en = .returned .nilIface ∧ ∃ G', Txt w' G' t (out ++ b64 tail) ∧ Newer G G' w ∧ Only (fun k => G k ∨ k = q) w w') := by
  have c0 := hq.c0
  have c1 := hq.c1
  have c2 := hq.c2
  have c6 : w.cell? ⟨q, 6, none⟩ = some (.int .i64 (n : Nat)) := by rw [← hn]; exact hq.c6
  have f0 : w.frozen? ⟨q, 0, none⟩ = false := by
    rcases hq.fz 0 with h | h
    · exact h
    · omega
  have f6 : w.frozen? ⟨q, 6, none⟩ = false := by
    rcases hq.fz 6 with h | h
    · exact h
    · omega
  have hqw := hq.lt
  have HP := hid (EwPost.start ht hq)
  have hb4 : (b64 tail).length = 4 := by
    match tail, hn with
    | [_], _ => rfl
    | [_, _], _ => rfl
    | [], h => simp at h; omega
    | _ :: _ :: _ :: _, h => simp at h; omega
  have HB4 := hid hb4
  have HENC : Hid (∀ w1, Only (fun _ => False) w w1 → Calls Tryz.prog 212 #[.pointer (some ⟨e, 0, none⟩), .slice (some ⟨q, 7, none⟩) 1024 1024, .slice (some ⟨q, 3, none⟩) n 3] w1 (fun en w' => en = .returned (.tuple #[]) ∧ Put w1 w' q 7 (b64 tail))) := hid (by
    intro w1 ho
    have hq1 := hq.only ho fun h => h
    refine encode e q 7 1024 1024 q 3 n 3 tail w1 (he.only ho fun h => h) hn (by omega) (by omega) (Nat.le_refl _) (Nat.le_refl _) (by omega) hq1.tc hq1.out (fun j hj => ?_) heq (Or.inr (by omega))
    rcases hq1.fz (7 + j) with h | h
    · exact h
    · omega)
  have HELEN : Hid (∀ w1, Only (fun k => k = q) w w1 → Calls Tryz.prog 213 #[.pointer (some ⟨e, 0, none⟩), .int .i64 (n : Nat)] w1 (fun en w' => en = .returned (.int .i64 4) ∧ w1 = w')) := hid fun w1 ho => encodedLen e n hn1 (by omega) w1 (he.only ho heq)
  have HGQ := hid hGq
  have hnl : 1 ≤ (n : Int) := by omega
  have hn0 : (0 : Int) ≤ (n : Int) := by omega
  have hn3 : (n : Int) ≤ 3 := by omega
  have hW := nilW
  clear ht hq he hn hGq hGe heq hb4
  go_enter Tryz.func210, Tryz.ntmps210
  go_wp2_with fail
  go_region_held3 (fun w' => w'.cell? ⟨q, 1, none⟩ = some (.pointer (some ⟨e, 0, none⟩)) ∧ w'.cell? ⟨q, 6, none⟩ = some (.int .i64 (n : Nat))) (go_keep)
    (first
      | (go_at_call 212; go_must (refine (HENC.out _ (by simp)).mono ?_); rintro en w1 ⟨rfl, hp⟩; have HPUT := hid hp; have r0 := (hp.rest 0 (Or.inl (by omega))).trans c0; have r1 := (hp.rest 1 (Or.inl (by omega))).trans c1; have r2 := (hp.rest 2 (Or.inl (by omega))).trans c2; have r6 := (hp.rest 6 (Or.inl (by omega))).trans c6; have rf := (hp.free 0).trans f0; have rf6 := (hp.free 6).trans f6; clear hp))
  have HP1 := hid ((HP.out.same (w2 := w.drew) (by simp)).put HGQ.out hqw HPUT.out (by rw [HB4.out]; omega))
  have HO1 := hid (show Only (fun k => k = q) w w1 from ((Only.refl (fun k => k = q) w).drew).trans HPUT.out.only)
  clear HENC
  go_wp2_with fail
  go_region_held3 (fun w' => w'.cell? ⟨q, 2, none⟩ = some (.iface 49 (.pointer (some ⟨t, 0, none⟩))) ∧ w'.cell? ⟨q, 1, none⟩ = some (.pointer (some ⟨e, 0, none⟩)) ∧ w'.cell? ⟨q, 6, none⟩ = some (.int .i64 (n : Nat))) (first | (go_keep; done) | (go_simp; done))
    (first
      | (go_at_call 213; go_must (refine (HELEN.out _ (HO1.out.drew)).mono ?_); rintro en w' ⟨rfl, rfl⟩)
      | (go_at_call 196; go_must (refine ((HP1.out.same (w2 := w1.drew) (by simp)).write HGQ.out hqw 4 1024 (bs := b64 tail) HB4.out (by omega) ⟨by omega, Nat.le_refl _⟩ (by omega) (fun j hj => by simpa using HPUT.out.cells j hj)).mono ?_); rintro en w2 ⟨rfl, h2, h3⟩; have HP2 := hid h2; have u0 := (h3 0).1.trans r0; have u1 := (h3 1).1.trans r1; have u2 := (h3 2).1.trans r2; have u6 := (h3 6).1.trans r6; have uf := (h3 0).2.trans rf; have uf6 := (h3 6).2.trans rf6; clear h2 h3))
  go_wp2
  all_goals
    go_ret
    refine ⟨rfl, ?_⟩
    obtain ⟨G', t1, t2, t3, t4⟩ := HP2.out
    have hq' : ¬ G' q := fun e => by
      rcases t2 q e with e | e
      · exact HGQ.out e
      · omega
    refine ⟨G', t1.only (S := fun k => k = q) ?_ fun k hk e => hq' (e ▸ hk), t2, t3.trans (Only.mono (S := fun k => k = q) ?_ fun k _ e => Or.inr e)⟩
    · exact Only.setCell (S := fun k => k = q) (p := ⟨q, 6, none⟩) (Only.setCell (S := fun k => k = q) (p := ⟨q, 0, none⟩) (Only.refl _ _) (fun _ => rfl) _) (fun _ => rfl) _
    · exact Only.setCell (S := fun k => k = q) (p := ⟨q, 6, none⟩) (Only.setCell (S := fun k => k = q) (p := ⟨q, 0, none⟩) (Only.refl _ _) (fun _ => rfl) _) (fun _ => rfl) _
end Go.Proofs.YtbgckolcimlofaaGreatDoor
namespace Go.Proofs.YtbgckolcimlofaaGreatDoor
open Go.RowKit YtbgckolcimlofaaGreatDoorPj

theorem heap_new (w : World) (o : Obj) : (w.alloc o).heap[w.heap.size]? = some o := by
  show (w.heap.push o)[w.heap.size]? = some o
  simp
theorem cell_new (w : World) (A : Array Value) (T : TypeId) (o : Nat) : (w.alloc (.cells A T)).cell? ⟨w.heap.size, o, none⟩ = A[o]? :=
  cell_of_row _ _ _ A T (0, 0) (heap_new w _)
theorem frozen_new (w : World) (A : Array Value) (T : TypeId) (o : Nat) : (w.alloc (.cells A T)).frozen? ⟨w.heap.size, o, none⟩ = false := by
  unfold World.frozen?
  rw [heap_new]
  simp
theorem z183 : Tryz.zeroCells183.toList = [.nilIface, .pointer none, .nilIface, .int .u8 0, .int .u8 0, .int .u8 0, .int .i64 0] ++ List.replicate 1024 (.int .u8 0) := by kernel_rfl
theorem z183_get (o : Nat) : Tryz.zeroCells183[o]? = ([.nilIface, .pointer none, .nilIface, .int .u8 0, .int .u8 0, .int .u8 0, .int .i64 0] ++ List.replicate 1024 (Value.int .u8 0))[o]? := by
  rw [← z183, Array.getElem?_toList]
theorem z183_size : Tryz.zeroCells183.size = 1031 := by
  rw [← Array.length_toList, z183, List.length_append, List.length_replicate]
  rfl
set_option maxRecDepth 1000000 in
set_option maxHeartbeats 4000000 in
theorem newEncoder (e t : Nat) (w : World) : Calls Tryz.prog 76 #[.pointer (some ⟨e, 0, none⟩), .iface 49 (.pointer (some ⟨t, 0, none⟩))] w (fun en w' => ∃ q, en = .returned (.iface 179 (.pointer (some ⟨q, 0, none⟩))) ∧ q = w.heap.size ∧ Only (fun _ => False) w w' ∧ EncdAt w' q e t []) := by
  go_enter Tryz.func76, Tryz.ntmps76
  go_wp2_with fail
  go_ret
  refine ⟨w.heap.size, rfl, rfl, by simp, ?_⟩
  have hc := cell_new w ((Tryz.zeroCells183.setIfInBounds 1 (Value.pointer (some ⟨e, 0, none⟩))).setIfInBounds 2 (Value.iface 49 (Value.pointer (some ⟨t, 0, none⟩)))) 183
  have hf := frozen_new w ((Tryz.zeroCells183.setIfInBounds 1 (Value.pointer (some ⟨e, 0, none⟩))).setIfInBounds 2 (Value.iface 49 (Value.pointer (some ⟨t, 0, none⟩)))) 183
  have hz := z183_get
  have hs := z183_size
  have ho : ∀ o, o ≠ 1 → o ≠ 2 → ((Tryz.zeroCells183.setIfInBounds 1 (Value.pointer (some ⟨e, 0, none⟩))).setIfInBounds 2 (Value.iface 49 (Value.pointer (some ⟨t, 0, none⟩))))[o]? = Tryz.zeroCells183[o]? := fun o h1 h2 => by
    rw [Array.getElem?_setIfInBounds, if_neg (by omega), Array.getElem?_setIfInBounds, if_neg (by omega)]
  refine ⟨?_, ?_, ?_, fun j hj => ⟨0, ?_⟩, by simp, fun j h => absurd h (by simp), ?_, fun j hj => ⟨0, ?_⟩, fun o => ?_⟩
  · rw [hc, ho 0 (by omega) (by omega), hz]; rfl
  · rw [hc, Array.getElem?_setIfInBounds, if_neg (by omega), Array.getElem?_setIfInBounds, if_pos rfl, if_pos (by omega)]
  · rw [hc, Array.getElem?_setIfInBounds, if_pos rfl, if_pos (by simp [hs])]
  · rw [hc, ho _ (by omega) (by omega), hz]
    match j, hj with
    | 0, _ => rfl
    | 1, _ => rfl
    | 2, _ => rfl
  · rw [hc, ho 6 (by omega) (by omega), hz]; rfl
  · rw [hc, ho _ (by omega) (by omega), hz, List.getElem?_append_right (by simp)]
    rw [List.getElem?_replicate, if_pos (by simp; omega)]
  · by_cases h : o < 1031
    · exact Or.inl (hf o)
    · exact Or.inr (by omega)
end Go.Proofs.YtbgckolcimlofaaGreatDoor
namespace Go.Proofs.YtbgckolcimlofaaGreatDoor
open Go.RowKit YtbgckolcimlofaaGreatDoorPj
theorem z214 : Tryz.zeroCells214.toList = List.replicate 320 (.int .u8 0) ++ [.int .i32 0, .bool false] := by kernel_rfl
theorem z214_get (o : Nat) : Tryz.zeroCells214[o]? = (List.replicate 320 (Value.int .u8 0) ++ [.int .i32 0, .bool false])[o]? := by
  rw [← z214, Array.getElem?_toList]
theorem z214_lo (o : Nat) (h : o < 320) : Tryz.zeroCells214[o]? = some (.int .u8 0) := by
  rw [z214_get, List.getElem?_append_left (by rw [List.length_replicate]; exact h), List.getElem?_replicate, if_pos h]
theorem z214_320 : Tryz.zeroCells214[320]? = some (.int .i32 0) := by
  rw [z214_get, List.getElem?_append_right (by rw [List.length_replicate]; omega), List.length_replicate]
  rfl
theorem z214_size : Tryz.zeroCells214.size = 322 := by
  rw [← Array.length_toList, z214, List.length_append, List.length_replicate]
  rfl
set_option maxRecDepth 100000 in
theorem b64c_ne : ∀ i j : Fin 64, i < j → (b64c i.val).toNat ≠ (b64c j.val).toNat := by decide
set_option maxRecDepth 100000 in
theorem b64c_10 : ∀ i : Fin 64, (b64c i.val).toNat ≠ 10 ∧ (b64c i.val).toNat ≠ 13 := by decide
/-- While the table is laid. -/
structure EncPart (w : World) (h k : Nat) : Prop where
  enc : ∀ j, j < 64 → w.cell? ⟨h, j, none⟩ = some (u8v (b64c j))
  pad : w.cell? ⟨h, 320, none⟩ = some (.int .i32 61)
  dm : ∀ j, k ≤ j → j < 64 → w.cell? ⟨h, 64 + (b64c j).toNat, none⟩ = some (.int .u8 255)
  fz : ∀ o, w.frozen? ⟨h, o, none⟩ = false
theorem run_copy_str (w : World) (ty : TypeId) (b o dLen dCap : Nat) (t : ByteArray) (hle : t.size ≤ dLen) (hc : ∀ j, j < t.size → (w.cell? ⟨b, o + j, none⟩).isSome = true) (hf : ∀ j, j < t.size → w.frozen? ⟨b, o + j, none⟩ = false) :
    (Builtin.copy_ #[29, 9] ty #[.slice (some ⟨b, o, none⟩) dLen dCap, .string t]).run Tryz.prog w = .ok (goInt t.size) (w.setCells b o (t.data.toList.map u8v)) :=
  run_copy_string (P := Tryz.prog) w 29 9 ty 5 b o dLen dCap t tryz_u29 (fun w => by kernel_rfl) hle hc hf
theorem enc_init (S : ByteArray) (hS : S.size = 64) (hSb : ∀ j (hj : j < S.size), S[j] = b64c j) (w W1 : World) (h : Nat) (hh : h = w.heap.size) (ho1 : Only (fun k => k = h) w W1)
    (hc : ∀ o, o < 320 → W1.cell? ⟨h, o, none⟩ = some (.int .u8 0)) (hp : W1.cell? ⟨h, 320, none⟩ = some (.int .i32 61)) (hf : ∀ o, W1.frozen? ⟨h, o, none⟩ = false) :
    ∃ W2 W3, (∀ ty, (Builtin.copy_ #[29, 9] ty #[.slice (some ⟨h, 0, none⟩) 64 64, .string S]).run Tryz.prog W1 = .ok (.int .i64 64) W2) ∧
      (∀ ty (T : ByteArray), T.data.toList = List.replicate 256 255 → (Builtin.copy_ #[29, 9] ty #[.slice (some ⟨h, 64, none⟩) 256 256, .string T]).run Tryz.prog W2 = .ok (.int .i64 256) W3) ∧ EncPart W3 h 0 ∧ Only (fun _ => False) w W3 := by
  have hl : S.data.toList.length = 64 := by rw [← size_eq']; exact hS
  have p1 := Put.setCells h S.data.toList 0 W1 (fun j hj => ⟨_, hc (0 + j) (by omega)⟩)
  have p2 := Put.setCells h (List.replicate 256 255) 64 (W1.setCells h 0 (S.data.toList.map u8v)) (fun j hj => ⟨_, (p1.rest (64 + j) (Or.inr (by rw [List.length_replicate] at hj; omega))).trans (hc (64 + j) (by rw [List.length_replicate] at hj; omega))⟩)
  have hl2 : (List.replicate 256 (255 : UInt8)).length = 256 := List.length_replicate
  refine ⟨W1.setCells h 0 (S.data.toList.map u8v), (W1.setCells h 0 (S.data.toList.map u8v)).setCells h 64 ((List.replicate 256 255).map u8v), fun ty => ?_, fun ty T hT => ?_, ⟨fun j hj => ?_, ?_, fun j _ hj => ?_, fun o => (p2.free o).trans ((p1.free o).trans (hf o))⟩, ?_⟩
  · have := run_copy_str W1 ty h 0 64 64 S (by omega) (fun j hj => by rw [hc _ (by omega)]; rfl) (fun j hj => hf _)
    rw [hS] at this
    exact this
  · have hTs : T.size = 256 := by rw [size_eq', hT]; exact hl2
    have := run_copy_str (W1.setCells h 0 (S.data.toList.map u8v)) ty h 64 256 256 T (by omega) (fun j hj => by rw [(p1.rest (64 + j) (Or.inr (by omega))).trans (hc (64 + j) (by omega))]; rfl) (fun j hj => (p1.free _).trans (hf _))
    rw [hTs, hT] at this
    exact this
  · have h1 := p1.cells j (by omega)
    rw [Nat.zero_add] at h1
    have h2 : S.data.toList[j]'(by omega) = b64c j := hSb j (by omega)
    rw [h2] at h1
    exact (p2.rest j (Or.inl (by omega))).trans h1
  · exact (p2.rest 320 (Or.inr (by omega))).trans ((p1.rest 320 (Or.inr (by omega))).trans hp)
  · have hb := (b64c j).toNat_lt
    have h1 := p2.cells (b64c j).toNat (by omega)
    rw [List.getElem_replicate] at h1
    exact h1
  · exact (ho1.trans' p1.only fun i hi e => e).trans' p2.only (fun i hi e => e) |>.trans' (Only.refl (fun _ => False) _) (fun _ _ e => e.elim) |> fun x => ⟨x.os, x.tape, x.output, x.size, fun k hk _ => x.block k hk (fun e => by have e : k = h := e; omega)⟩
theorem EncPart.next {w : World} {h k : Nat} (hp : EncPart w h k) (hk : k < 64) (v : Value) : EncPart (w.setCell ⟨h, 64 + (b64c k).toNat, none⟩ v) h (k + 1) := by
  have hb := (b64c k).toNat_lt
  refine ⟨fun j hj => ?_, ?_, fun j hj1 hj => ?_, fun o => by simpa using hp.fz o⟩
  · have h1 := hp.enc j hj
    have e1 : ¬ 64 + (b64c k).toNat = j := by omega
    have e2 : ¬ j = 64 + (b64c k).toNat := by omega
    go_simp
  · have h1 := hp.pad
    have e1 : ¬ 64 + (b64c k).toNat = 320 := by omega
    have e2 : ¬ 320 = 64 + (b64c k).toNat := by omega
    go_simp
  · have h1 := hp.dm j (by omega) hj
    have hne := b64c_ne ⟨k, hk⟩ ⟨j, hj⟩ (by show k < j; omega)
    have hne : (b64c k).toNat ≠ (b64c j).toNat := hne
    have e1 : ¬ 64 + (b64c k).toNat = 64 + (b64c j).toNat := by omega
    have e2 : ¬ 64 + (b64c j).toNat = 64 + (b64c k).toNat := by omega
    go_simp
set_option maxRecDepth 1000000 in
set_option maxHeartbeats 4000000 in
theorem newEncoding (S : ByteArray) (hS : S.size = 64) (hSb : ∀ j (hj : j < S.size), S[j] = b64c j) (w : World) : Calls Tryz.prog 101 #[.string S] w (fun en w' => ∃ e, en = .returned (.pointer (some ⟨e, 0, none⟩)) ∧ e = w.heap.size ∧ Only (fun _ => False) w w' ∧ EncAt w' e) := by
  have HS := hid hS
  have HSB := hid hSb
  have hsl : S.data.toList.length = 64 := by rw [← size_eq']; exact hS
  have h64 : ((S.size : Int) != 64) = false := by rw [hS]; rfl
  have h640 : S.size ≤ 64 := by omega
  have c320 : (w.alloc (.cells Tryz.zeroCells214 214)).cell? ⟨w.heap.size, 320, none⟩ = some (.int .i32 0) := by rw [cell_new]; exact z214_320
  have f320 := frozen_new w Tryz.zeroCells214 214 320
  have hlo : ∀ o, o < 320 → (w.alloc (.cells (Tryz.zeroCells214.setIfInBounds 320 (.int .i32 61)) 214)).cell? ⟨w.heap.size, o, none⟩ = some (.int .u8 0) := fun o ho => by
    rw [cell_new, Array.getElem?_setIfInBounds, if_neg (by omega)]
    exact z214_lo o ho
  have hpd : (w.alloc (.cells (Tryz.zeroCells214.setIfInBounds 320 (.int .i32 61)) 214)).cell? ⟨w.heap.size, 320, none⟩ = some (.int .i32 61) := by
    rw [cell_new, Array.getElem?_setIfInBounds, if_pos rfl, if_pos (by rw [z214_size]; omega)]
  have hfz := frozen_new w (Tryz.zeroCells214.setIfInBounds 320 (.int .i32 61)) 214
  obtain ⟨W2, W3, r1, r2, r3, r4⟩ := enc_init S hS hSb w _ w.heap.size rfl (by simp) hlo hpd hfz
  · have HR1 := hid r1
    have HR2 := hid r2
    have HP := hid r3
    have HO := hid r4
    clear hlo hpd hfz hS hSb hsl r1 r2 r3 r4
    go_enter Tryz.func101, Tryz.ntmps101
    go_upto_region 5 with fail
    go_cut [] (fun wx => wx = W2)
    case first =>
      go_wp2_with (refine Lib.wpList_copy_run _ rfl _ _ 29 9 rfl _ _ rfl rfl (HR1.out _) ?_)
      go_frame
      go_meet
      rfl
    case rest =>
      obtain rfl := hcut
      go_upto_region 6 with fail
      go_cut [] (fun wx => wx = W3)
      case first =>
        go_wp2_with (refine Lib.wpList_copy_run (v' := .int .i64 256) (w' := W3) _ rfl _ _ 29 9 rfl _ _ rfl rfl ?_ ?_; go_must (refine HR2.out _ _ ?_); go_must (kernel_rfl))
        try go_frame
        go_meet
        rfl
      case rest =>
        obtain rfl := hcut
        go_wp2_with fail
        go_loopg [4] 65 (fun m v4 wr => ∃ k : Nat, k + m = 65 ∧ k ≤ 64 ∧ v4 = .int .i64 (k : Nat) ∧ Hid (EncPart wr w.heap.size k) ∧ Hid (Only (fun _ => False) w wr))
        case atStart => exact ⟨0, by omega, by omega, rfl, HP, HO⟩
        case round =>
          obtain ⟨k, hkm, hk, rfl, HE, HOW⟩ := hrel
          by_cases hlt : k < 64
          · have hkS : k < S.size := by rw [HS.out]; exact hlt
            have eb := HSB.out k hkS
            have q256 : (S[k]).toNat < 256 := UInt8.toNat_lt _
            have q0 : (0 : Int) ≤ ((S[k]).toNat : Int) := by omega
            have q2 : ((S[k]).toNat : Int) < 256 := by omega
            have h10 := b64c_10 ⟨k, hlt⟩
            have q10 : (((S[k]).toNat : Int) == 10) = false := by rw [eb]; simp; have := h10.1; simp at this; omega
            have q13 : (((S[k]).toNat : Int) == 13) = false := by rw [eb]; simp; have := h10.2; simp at this; omega
            have dk : wr.cell? ⟨w.heap.size, 64 + (S[k]).toNat, none⟩ = some (.int .u8 255) := by rw [eb]; exact HE.out.dm k (Nat.le_refl _) hlt
            have fk := HE.out.fz (64 + (S[k]).toNat)
            have wk : IntKind.u8.wrap (k : Int) = (k : Int) := by simp [IntKind.wrap, IntKind.bits, IntKind.signed]; omega
            have EB := hid eb
            clear eb h10
            go_wp2_with fail
            go_quiet (fail)
            go_wp2
            go_region_held3 (fun _ => True) (trivial)
              (fail)
            go_wp2
            all_goals
              go_roundg (gk - 1)
              case measure => omega
              case rel =>
                refine ⟨k + 1, by omega, by omega, by go_num, hid ?_, hid ?_⟩
                · have hE2 : EncPart ((wr.drewN nq).drew) w.heap.size k := ⟨fun j hj => by simpa using HE.out.enc j hj, by simpa using HE.out.pad, fun j h1 h2 => by simpa using HE.out.dm j h1 h2, fun o => by simpa using HE.out.fz o⟩
                  have := hE2.next hlt (.int .u8 (k : Nat))
                  rw [← EB.out] at this
                  exact this
                · exact (HOW.out.trans' (Only.setCell (S := fun k => k = w.heap.size) (p := ⟨w.heap.size, 64 + (S[k]).toNat, none⟩) (((Only.refl _ wr).drewN nq).drew) (fun _ => rfl) _) (fun i hi e => by have e : i = w.heap.size := e; omega))
          · have : k = 64 := by omega
            subst this
            go_wp2
            go_ret
            exact ⟨_, rfl, rfl, HOW.out, HE.out.enc, HE.out.pad⟩
end Go.Proofs.YtbgckolcimlofaaGreatDoor
namespace Go.Proofs.YtbgckolcimlofaaGreatDoor
open Go.RowKit YtbgckolcimlofaaGreatDoorPj

/-- What 'ReadFull' leaves. -/
def FullPost (F : Nat → Prop) (s n g cap : Nat) (all : List UInt8) (w : World) (e : Ending) (w' : World) : Prop :=
  e = .returned (.tuple #[.int .i64 (n : Nat), .nilIface]) ∧ ∃ F', Newer F F' w ∧ Rd w' F' s (all.drop n) ∧ Row w' 0 (.slice (some ⟨g, 0, none⟩) n cap) (all.take n) ∧ Only (fun k => F k ∨ k = g) w w'
set_option maxRecDepth 100000 in
set_option maxHeartbeats 4000000 in
theorem readFull (w : World) (F : Nat → Prop) (s n g cap : Nat) (cur : List Value) (all : List UInt8) (h : Rd w F s all) (hn : n ≤ all.length) (hg : w.heap[g]? = some (.cells (List.toArray cur) 5 (0, 0))) (hcl : cur.length = cap) (hgF : ¬ F g) (hnc : n ≤ cap) (hcm : cap ≤ maxLen) :
    Calls Tryz.prog 100 #[.pointer (some ⟨s, 0, none⟩), .slice (some ⟨g, 0, none⟩) n cap] w (FullPost F s n g cap all w) := by
  have HM := hid (h.call n hn)
  have hsF := h.fs
  have hn2 : n ≤ 1099511627776 := by have := h.big; omega
  have HNA := hid hn
  have HG := hid hg
  have HCL := hid hcl
  have HGF := hid hgF
  have HCM := hid hcm
  have hgw : g < w.heap.size := (Array.getElem?_eq_some_iff.1 hg).1
  have hgs : ¬ s = g := fun e => hgF (e ▸ hsF)
  obtain ⟨C, hC⟩ : ∃ C, C = all.take n := ⟨_, rfl⟩
  have hCl : C.length = n := by rw [hC, List.length_take]; omega
  have HC := hid hC
  subst hCl
  have HCl : Hid (C.length = C.length) := hid rfl
  clear h hn hg hcl hgF hcm hC hsF
  go_enter Tryz.func100, Tryz.ntmps100
  go_wp2_with (go_at_call 63; refine HM.out.mono ?_; rintro e w1 hm; obtain ⟨rfl, F', A, nb, cap1, atq, buf', rest', HS, HALL, HB, h1, h2, h3, h4, c1, c2, f2, HN, HO, hsl⟩ := hm.get; clear hm)
  have hg1 : w1.heap[g]? = some (.cells (List.toArray cur) 5 (0, 0)) := (HO.out.block g hgw HGF.out).trans HG.out
  have HG1 := hid hg1
  have hF'g : ¬ F' g := fun e => by
    rcases HN.out g e with e | e
    · exact HGF.out e
    · omega
  have HFG := hid hF'g
  have hb1 : (0 : Int) ≤ atq := by omega
  have hb2 : (atq : Int) ≤ nb := by omega
  have hb3 : (nb : Int) ≤ cap1 := by omega
  clear hg1 hF'g
  have HCM2 : Hid (C.length = Nat.min (nb - atq) C.length) := hid (by show C.length = min (nb - atq) C.length; omega)
  have hpos : Hid (∀ SP : Option Addr, (atq < nb → ∀ g', A = some ⟨g', 0, none⟩ → SP = some ⟨g', atq, none⟩) → 0 < C.length → ∃ g' off cur', (some (⟨g, 0, none⟩ : Addr)) = some ⟨g', off, none⟩ ∧ w1.heap[g']? = some (.cells (List.toArray cur') 5 (0, 0)) ∧ off + C.length ≤ cur'.length ∧ ∃ ad, SP = some ad ∧ ∀ j (h : j < C.length), w1.cell? (ad.add j) = some (u8v C[j])) := hid (by
    intro SP hSP h0
    refine ⟨g, 0, cur, rfl, HG1.out, by rw [HCL.out]; omega, ?_⟩
    have h0' := h0
    obtain ⟨g', e, _, _⟩ := HS.out.ahead HALL.out HB.out 0 (by have := HNA.out; omega) (by omega)
    refine ⟨⟨g', atq, none⟩, hSP (by omega) g' e, fun j hj => ?_⟩
    obtain ⟨g2, e2, _, hc2⟩ := HS.out.ahead HALL.out HB.out j (by have := HNA.out; have := HCl.out; omega) (by have := HCl.out; omega)
    rw [e] at e2
    injection e2 with e2
    injection e2 with e2
    subst e2
    rw [Addr.add_lit, hc2]
    have e3 : C[j] = all[j]'(by have := HNA.out; have := HCl.out; omega) := by
      rw [List.getElem_of_eq HC.out hj, List.getElem_take]
    rw [e3])
  by_cases hca : cap1 = atq
  all_goals
    have HCA := hid hca
    go_wp2_with fail
    go_region_held3 (fun w' => w'.cell? ⟨s, 1, none⟩ = some (.slice A nb cap1) ∧ w'.cell? ⟨s, 2, none⟩ = some (.int .i64 (atq : Nat))) (go_keep)
      (first
        | (refine step_copy_gen rfl _ _ rfl _ _ _ _ _ _ rfl rfl C HCM2.out (hpos.out _ (fun h g' e => by have := HCA.out; first | (exfalso; omega) | (rw [e]; exact sp_of g' atq))) ?_; intro w2 h5; have H5 := hid h5; have h6 : Only (fun k => k = g) w1.drew w2 := (h5.only fun b off e _ => by injection e with e; injection e with e; exact e.symm); have k1 := (h6.cell (o := 1) hsl hgs).trans c1; have k2 := (h6.cell (o := 2) hsl hgs).trans c2; have kf := (h6.frozen (o := 2) hsl hgs).trans f2; have H6 := hid h6; clear h5 h6))
    have hdn : decide (((C.length : Nat) : Int) < (C.length : Nat)) = false := by simp
    go_wp2
    go_ret2
    have h7 : Only (fun k => k = g) w1 w2 := ((Only.refl (fun k => k = g) w1).drew).trans H6.out
    have hs2 : Src w2 F' s (.slice A nb cap1) atq buf' rest' := HS.out.only (S := fun k => k = g) h7 fun k hk e => HFG.out (by have e : k = g := e; exact e ▸ hk)
    have hav := Src.adv (n := C.length) (z := (atq : Int) + (C.length : Nat)) hs2 (by have := HB.out; omega) (by omega)
    refine ⟨rfl, F', HN.out, hav.1.rd_adv HALL.out HB.out (by omega), ?_, ?_⟩
    · have hr2 : Row w2 0 (.slice (some ⟨g, 0, none⟩) C.length cap) C := by
        rcases H5.out with ⟨h0, rfl⟩ | ⟨g', off, cur', e1, e2, e3, e4, e5⟩
        · have e0 : C = [] := List.eq_nil_of_length_eq_zero h0
          exact Row.of_cur (Nat.zero_le _) HG1.out HCL.out rfl (by rw [e0]; rfl) hnc HCM.out
        · injection e1 with e1
          injection e1 with e1 e6
          subst e1 e6
          have e7 : (w1.drew).heap[g]? = some (.cells (List.toArray cur) 5 (0, 0)) := HG1.out
          rw [e7] at e2
          injection e2 with e2
          injection e2 with e2
          have e8 : cur = cur' := by simpa using e2
          subst e8
          refine Row.of_cur (Nat.zero_le _) e4 ?_ rfl ?_ hnc HCM.out
          · rw [← HCL.out]
            unfold splice
            simp
            simp at e3
            omega
          · have := splice_take cur (C.map u8v) 0 (by simpa using e3)
            simpa using this
      rw [← HC.out]
      exact hr2.only hav.2 fun k hk e => by
        have e2 : g = k := by injection hk
        exact HFG.out (e2 ▸ e)
    · refine ((HO.out.mono fun k _ e => Or.inl e).trans' h7 fun i hi e => Or.inr e).trans' hav.2 fun i hi e => ?_
      rcases HN.out i e with e | e
      · exact Or.inl e
      · omega
end Go.Proofs.YtbgckolcimlofaaGreatDoor
