/-
  ReadArrayHeader, NextType and the guard against depth; where a written value lies ahead.
  base64 of a text by the impl package; for every text within the bound.
  A row of values in the heap: its cells; under the value predicate.
-/
import Derived.Test.YtbgckolcimlofaaGreatDoorProg
import Derived.Test.YtbgckolcimlofaaGreatDoorT16
import Derived.Test.YtbgckolcimlofaaGreatDoorT01
import Derived.Test.YtbgckolcimlofaaGreatDoorT02
import Derived.Deep.QuietTactic
import Derived.BigQuiet
import Derived.Deep.LoopGhost
import Derived.Deep.DeepCutAuto
import Derived.Handy
import Derived.StillTailTactics
import Derived.Maps.AppendAt
set_option linter.unusedVariables false
set_option linter.unusedSimpArgs false
namespace Go.Proofs.YtbgckolcimlofaaGreatDoor
open Go.RowKit YtbgckolcimlofaaGreatDoorPj

set_option maxRecDepth 100000 in
set_option maxHeartbeats 2000000 in
theorem nextType (m : Nat) (b : UInt8) (t : Int) (ht : ∀ w, Calls Tryz.prog 46 #[.int .u8 (b.toNat : Int)] w (TypePost t w)) (h0 : (t == 0) = false) (h12 : (t == 12) = false) (F : Nat → Prop) (s : Nat) (r : List UInt8) (w w0 : World) (h : Went F s (b :: r) w0 w) (c0 : w.cell? ⟨m, 0, none⟩ = some (.pointer (some ⟨s, 0, none⟩))) (hm : m < w0.heap.size) (hF : ¬ F m) :
    Calls Tryz.prog 40 #[.pointer (some ⟨m, 0, none⟩)] w (GotW F s (b :: r) (.tuple #[.int .u8 t, .nilIface]) w0) := by
  have HT := hid ht
  clear ht
  have HW := hid h
  have HC : Hid (∀ a w1, Went F s a w0 w1 → w1.cell? ⟨m, 0, none⟩ = some (.pointer (some ⟨s, 0, none⟩))) := hid fun a w1 h1 => (h1.cell hm hF).trans ((h.cell hm hF).symm.trans c0)
  clear h
  go_enter Tryz.func40, Tryz.ntmps40
  go_wp2_with (first
    | (go_at_call 45; refine (peekByte_w HW.out).mono ?_; rintro e w1 ⟨rfl, h1⟩; have k0 := HC.out _ _ h1; have H1 := hid h1; clear h1)
    | (go_at_call 46; refine (HT.out _).mono ?_; rintro e w2 ⟨rfl, h2⟩; have H2 := hid (H1.out.only h2); clear h2))
  go_ret2
  exact ⟨rfl, H2.out⟩
set_option maxRecDepth 100000 in
set_option maxHeartbeats 2000000 in
theorem defun_1 (w : World) : Calls Tryz.prog 41 #[.int .u8 1] w (fun e w' => e = .returned (.func (.func 48) #[] #[]) ∧ w = w') := by
  go_enter Tryz.func41, Tryz.ntmps41
  go_wp2
  go_ret
  exact ⟨rfl, rfl⟩
set_option maxRecDepth 100000 in
set_option maxHeartbeats 2000000 in
theorem defun_2 (w : World) : Calls Tryz.prog 41 #[.int .u8 2] w (fun e w' => e = .returned (.func (.func 49) #[] #[]) ∧ w = w') := by
  go_enter Tryz.func41, Tryz.ntmps41
  go_wp2
  go_ret
  exact ⟨rfl, rfl⟩
set_option maxRecDepth 100000 in
set_option maxHeartbeats 2000000 in
theorem defun_3 (w : World) : Calls Tryz.prog 41 #[.int .u8 3] w (fun e w' => e = .returned (.func (.func 50) #[] #[]) ∧ w = w') := by
  go_enter Tryz.func41, Tryz.ntmps41
  go_wp2
  go_ret
  exact ⟨rfl, rfl⟩
set_option maxRecDepth 100000 in
set_option maxHeartbeats 2000000 in
theorem defun_4 (w : World) : Calls Tryz.prog 41 #[.int .u8 4] w (fun e w' => e = .returned (.func (.func 51) #[] #[]) ∧ w = w') := by
  go_enter Tryz.func41, Tryz.ntmps41
  go_wp2
  go_ret
  exact ⟨rfl, rfl⟩
set_option maxRecDepth 100000 in
set_option maxHeartbeats 2000000 in
theorem defun_7 (w : World) : Calls Tryz.prog 41 #[.int .u8 7] w (fun e w' => e = .returned (.func (.func 54) #[] #[]) ∧ w = w') := by
  go_enter Tryz.func41, Tryz.ntmps41
  go_wp2
  go_ret
  exact ⟨rfl, rfl⟩
set_option maxRecDepth 100000 in
set_option maxHeartbeats 2000000 in
theorem defun_8 (w : World) : Calls Tryz.prog 41 #[.int .u8 8] w (fun e w' => e = .returned (.func (.func 55) #[] #[]) ∧ w = w') := by
  go_enter Tryz.func41, Tryz.ntmps41
  go_wp2
  go_ret
  exact ⟨rfl, rfl⟩
set_option maxRecDepth 100000 in
set_option maxHeartbeats 2000000 in
theorem defun_9 (w : World) : Calls Tryz.prog 41 #[.int .u8 9] w (fun e w' => e = .returned (.func (.func 56) #[] #[]) ∧ w = w') := by
  go_enter Tryz.func41, Tryz.ntmps41
  go_wp2
  go_ret
  exact ⟨rfl, rfl⟩
set_option maxRecDepth 100000 in
set_option maxHeartbeats 2000000 in
theorem defun_10 (w : World) : Calls Tryz.prog 41 #[.int .u8 10] w (fun e w' => e = .returned (.func (.func 57) #[] #[]) ∧ w = w') := by
  go_enter Tryz.func41, Tryz.ntmps41
  go_wp2
  go_ret
  exact ⟨rfl, rfl⟩
def RecPost (m d : Nat) (w : World) (e : Ending) (w' : World) : Prop :=
  ∃ b, e = .returned (.tuple #[.func (.func 106) #[] #[.pointer (some ⟨b, 0, none⟩)], .nilIface]) ∧ w'.cell? ⟨b, 0, none⟩ = some (.pointer (some ⟨m, 0, none⟩)) ∧ w.heap.size ≤ b ∧ b < w'.heap.size ∧ w'.cell? ⟨m, 2, none⟩ = some (.int .i64 ((d + 1 : Nat) : Int)) ∧ Only (fun k => k = m) w w' ∧ w'.frozen? ⟨m, 2, none⟩ = false ∧ ∃ w1, Only (fun _ => False) w w1 ∧ w' = w1.setCell ⟨m, 2, none⟩ (.int .i64 ((d + 1 : Nat) : Int))
set_option maxRecDepth 100000 in
set_option maxHeartbeats 2000000 in
theorem recursive (m d : Nat) (hd : d < 100000) (w : World) (c2 : w.cell? ⟨m, 2, none⟩ = some (.int .i64 (d : Nat))) (c3 : w.cell? ⟨m, 3, none⟩ = some (.int .i64 0)) (f2 : w.frozen? ⟨m, 2, none⟩ = false) :
    Calls Tryz.prog 79 #[.pointer (some ⟨m, 0, none⟩)] w (RecPost m d w) := by
  have hml : m < w.heap.size := World.block_lt_of_cell? w _ c2
  have hd1 : decide ((100000 : Int) ≤ d) = false := by simp; omega
  have hne : ¬ w.heap.size = m := by omega
  have hne2 : ¬ m = w.heap.size := by omega
  have HD := hid hd
  go_enter Tryz.func79, Tryz.ntmps79
  go_wp2
  go_quiet ((go_at_call 104; exact Calls.quiet_of_same ((maxDepth m _ (by go_simp)).mono fun e w' ⟨h1, h2⟩ => ⟨h1, h2.symm⟩)))
  go_wp2
  go_ret2
  refine ⟨w.heap.size, rfl, by go_simp, Nat.le_refl _, by simp, by go_simp, ?_, by go_simp, _, Only.drewN (Only.alloc (Only.refl (fun _ => False) _) _) _, rfl⟩
  exact Only.setCell (S := fun k => k = m) (p := ⟨m, 2, none⟩) (Only.drewN (Only.alloc (Only.refl _ _) _) _) (fun _ => rfl) _
set_option maxRecDepth 100000 in
set_option maxHeartbeats 2000000 in
theorem done (m d b : Nat) (w : World) (cb : w.cell? ⟨b, 0, none⟩ = some (.pointer (some ⟨m, 0, none⟩))) (c2 : w.cell? ⟨m, 2, none⟩ = some (.int .i64 ((d + 1 : Nat) : Int))) (f2 : w.frozen? ⟨m, 2, none⟩ = false) (hd : d < 100000) :
    Calls Tryz.prog 106 #[.pointer (some ⟨b, 0, none⟩)] w (fun e w' => e = .returned (.tuple #[]) ∧ w' = w.setCell ⟨m, 2, none⟩ (.int .i64 (d : Nat))) := by
  go_enter Tryz.func106, Tryz.ntmps106
  go_wp2
  go_end0
  exact ⟨rfl, by simp⟩
end Go.Proofs.YtbgckolcimlofaaGreatDoor
namespace Go.Proofs.YtbgckolcimlofaaGreatDoor
open Go.RowKit YtbgckolcimlofaaGreatDoorPj

def b64n (t : List UInt8) (i : Nat) : Nat → Nat
  | 0 => 0
  | k + 1 => b64n t i k * 256 + (t.getD (i + k) 0).toNat
def b64s (t : List UInt8) (i k : Nat) : UInt8 := if k ≤ t.length - i then b64c (b64n t i 3 / 2 ^ (18 - 6 * k) % 64) else 61

theorem b64n_lt (t : List UInt8) (i k : Nat) : b64n t i k < 256 ^ k := by
  induction k with
  | zero => simp [b64n]
  | succ k ih =>
    have := (t.getD (i + k) 0).toNat_lt
    unfold b64n
    rw [Nat.pow_succ]
    omega
def b64tab : ByteArray := ⟨#[65, 66, 67, 68, 69, 70, 71, 72, 73, 74, 75, 76, 77, 78, 79, 80, 81, 82, 83, 84, 85, 86, 87, 88, 89, 90, 97, 98, 99, 100, 101, 102, 103, 104, 105, 106, 107, 108, 109, 110, 111, 112, 113, 114, 115, 116, 117, 118, 119, 120, 121, 122, 48, 49, 50, 51, 52, 53, 54, 55, 56, 57, 43, 47]⟩
theorem b64_tab : ∀ m : Fin 64, b64tab[m.val]'(m.isLt) = b64c m.val := by decide
theorem UInt8.toNat_zero' : (0 : UInt8).toNat = 0 := rfl
theorem cons_eq {α : Type} {a b : α} {l m : List α} (h : a = b) (k : l = m) : a :: l = b :: m := by rw [h, k]
theorem take_snoc (f : Nat → UInt8) (k : Nat) (hk : k < 4) : ([0, 1, 2, 3].take (k + 1)).map f = ([0, 1, 2, 3].take k).map f ++ [f k] := by
  have : k = 0 ∨ k = 1 ∨ k = 2 ∨ k = 3 := by omega
  rcases this with rfl | rfl | rfl | rfl <;> rfl
theorem b64_chunk (t : List UInt8) (i : Nat) (h : i < t.length) : b64 (t.drop i) = [b64s t i 0, b64s t i 1, b64s t i 2, b64s t i 3] ++ b64 (t.drop (i + 3)) := by
  have h0 : t.drop i = t[i] :: t.drop (i + 1) := List.drop_eq_getElem_cons h
  have g0 : t.getD i 0 = t[i] := by simp [h]
  have l0 := t[i].toNat_lt
  by_cases h1 : i + 1 < t.length
  · have h1' : t.drop (i + 1) = t[i + 1] :: t.drop (i + 2) := List.drop_eq_getElem_cons h1
    have g1 : t.getD (i + 1) 0 = t[i + 1] := by simp [h1]
    have l1 := t[i + 1].toNat_lt
    by_cases h2 : i + 2 < t.length
    · have h2' : t.drop (i + 2) = t[i + 2] :: t.drop (i + 3) := List.drop_eq_getElem_cons h2
      have g2 : t.getD (i + 2) 0 = t[i + 2] := by simp [h2]
      have l2 := t[i + 2].toNat_lt
      rw [h0, h1', h2', b64]
      simp only [b64s, b64n, Nat.add_zero, g0, g1, g2]
      rw [if_pos (by omega), if_pos (by omega), if_pos (by omega), if_pos (by omega)]
      simp only [List.cons_append, List.nil_append, Nat.reduceMul, Nat.reduceSub, Nat.reducePow]
      exact cons_eq (congrArg _ (by omega)) (cons_eq (congrArg _ (by omega)) (cons_eq (congrArg _ (by omega)) (cons_eq (congrArg _ (by omega)) rfl)))
    · have h2' : t.drop (i + 2) = [] := List.drop_eq_nil_of_le (by omega)
      have g2 : t.getD (i + 2) 0 = 0 := by simp; rw [List.getElem?_eq_none (by omega)]; rfl
      rw [h0, h1', h2', List.drop_eq_nil_of_le (by omega : t.length ≤ i + 3), b64, b64]
      simp only [b64s, b64n, Nat.add_zero, g0, g1, g2]
      rw [if_pos (by omega), if_pos (by omega), if_pos (by omega), if_neg (by omega)]
      simp only [List.append_nil, Nat.reduceMul, Nat.reduceSub, Nat.reducePow, UInt8.toNat_zero']
      exact cons_eq (congrArg _ (by omega)) (cons_eq (congrArg _ (by omega)) (cons_eq (congrArg _ (by omega)) rfl))
  · have h1' : t.drop (i + 1) = [] := List.drop_eq_nil_of_le (by omega)
    have g1 : t.getD (i + 1) 0 = 0 := by simp; rw [List.getElem?_eq_none (by omega)]; rfl
    have g2 : t.getD (i + 2) 0 = 0 := by simp; rw [List.getElem?_eq_none (by omega)]; rfl
    rw [h0, h1', List.drop_eq_nil_of_le (by omega : t.length ≤ i + 3), b64, b64]
    simp only [b64s, b64n, Nat.add_zero, g0, g1, g2]
    rw [if_pos (by omega), if_pos (by omega), if_neg (by omega), if_neg (by omega)]
    simp only [List.append_nil, Nat.reduceMul, Nat.reduceSub, Nat.reducePow, UInt8.toNat_zero']
    exact cons_eq (congrArg _ (by omega)) (cons_eq (congrArg _ (by omega)) rfl)
set_option maxRecDepth 100000 in
set_option maxHeartbeats 1000000 in
theorem base64 (t : ByteArray) (w : World) (ht : t.size ≤ 1000000) : Calls Tryz.prog 18 #[.string t] w (fun e w' => e = .returned (.string ⟨(b64 (tx t)).toArray⟩) ∧ Only (fun _ => False) w w') := by
  go_enter Tryz.func18, Tryz.ntmps18
  go_wp2
  go_loopg [3, 4, 5, 6, 7, 8] (t.size + 3) (fun m v3 v4 v5 v6 v7 v8 wr => ∃ (i : Nat) (out : List UInt8), i + m = t.size + 3 ∧ v4 = .int .i64 (i : Nat) ∧ Row wr w.heap.size v3 out ∧ Only (fun _ => False) w wr ∧ out.length ≤ 2 * i ∧ Hid (b64 (tx t) = out ++ b64 ((tx t).drop i)))
  case atStart => exact ⟨0, [], by omega, rfl, Row.nil _ _, by simp, by simp, hid (by simp)⟩
  case round =>
    obtain ⟨i, out, hi, rfl, hown, ho, hlen, hb⟩ := hrel
    by_cases hlt : i < t.size
    · obtain ⟨wo, rfl⟩ : ∃ wo : World, wo = wr := ⟨_, rfl⟩
      obtain ⟨gk2, rfl⟩ : ∃ g : Nat, g = gk := ⟨_, rfl⟩
      go_wp2
      go_loopg [5, 7] 3 (fun m v5 v7 wr => ∃ k : Nat, k + m = 3 ∧ v7 = .int .i64 (k : Nat) ∧ v5 = .int .i64 (b64n (tx t) i k : Nat) ∧ wr = wo)
      case atStart => exact ⟨0, rfl, rfl, rfl, rfl⟩
      case round =>
        obtain ⟨k, hk, rfl, rfl, rfl⟩ := hrel
        by_cases hk3 : k < 3
        · by_cases hki : k < t.size - i
          · go_wp2
            go_roundg (gk - 1)
            case measure => omega
            case rel =>
              refine ⟨k + 1, by omega, by go_num, ?_, rfl⟩
              have h1 := b64n_lt (tx t) i k
              have h2 : (256 : Nat) ^ k ≤ 65536 := by have : k = 0 ∨ k = 1 ∨ k = 2 := by omega
                                                      rcases this with rfl | rfl | rfl <;> decide
              have h3 := t[i + k].toNat_lt
              rw [wrap64_id (by omega) (by omega), wrap64_id (by omega) (by omega), i64_or8 _ _ (by omega) (by omega) (by omega) (by omega) (by omega)]
              have h4 : b64n (tx t) i (k + 1) = b64n (tx t) i k * 256 + t[i + k].toNat := by rw [← getD_tx t _ (by omega)]; rfl
              rw [h4]
              simp
          · go_wp2
            go_roundg (gk - 1)
            case measure => omega
            case rel =>
              refine ⟨k + 1, by omega, by go_num, ?_, rfl⟩
              have h1 := b64n_lt (tx t) i k
              have h2 : (256 : Nat) ^ k ≤ 65536 := by have : k = 0 ∨ k = 1 ∨ k = 2 := by omega
                                                      rcases this with rfl | rfl | rfl <;> decide
              rw [wrap64_id (by omega) (by omega)]
              have h4 : b64n (tx t) i (k + 1) = b64n (tx t) i k * 256 := by rw [b64n, getD_tx0 t _ (by omega)]; simp
              rw [h4]
              simp
        · obtain rfl : k = 3 := by omega
          generalize hn : b64n (tx t) i 3 = n
          have HN := hid hn
          clear hn
          go_wp2
          go_loopg [3, 8] 4 (fun m v3 v8 wr => ∃ k : Nat, k + m = 4 ∧ v8 = .int .i64 (k : Nat) ∧ Row wr w.heap.size v3 (out ++ ([0, 1, 2, 3].take k).map (b64s (tx t) i)) ∧ Only (fun _ => False) w wr)
          case atStart => exact ⟨0, rfl, rfl, by simpa using hown, ho⟩
          case round =>
            obtain ⟨k, hk, rfl, hown, ho⟩ := hrel
            have hbw : w.heap.size ≤ wr.heap.size := ho.size
            by_cases hk4 : k < 4
            · have hn24 : n < 16777216 := by have := HN.out; have := b64n_lt (tx t) i 3; omega
              have hsh : (n : Int) / 2 ^ (18 - 6 * k) = ((n / 2 ^ (18 - 6 * k) : Nat) : Int) := by simp
              have hsl : n / 2 ^ (18 - 6 * k) ≤ n := Nat.div_le_self _ _
              have hm : bits BinOp.and IntKind.i64 ((n : Int) / 2 ^ (18 - 6 * k)) 63 = ((n / 2 ^ (18 - 6 * k) % 64 : Nat) : Int) := by
                rw [hsh]
                generalize n / 2 ^ (18 - 6 * k) = q at hsl
                rw [i64_and63 _ (by omega) (by omega)]
                simp
              have hm1 : 0 ≤ bits BinOp.and IntKind.i64 ((n : Int) / 2 ^ (18 - 6 * k)) 63 ∧ bits BinOp.and IntKind.i64 ((n : Int) / 2 ^ (18 - 6 * k)) 63 < 64 := by
                rw [hm]
                have : n / 2 ^ (18 - 6 * k) % 64 < 64 := Nat.mod_lt _ (by decide)
                generalize n / 2 ^ (18 - 6 * k) % 64 = q at this
                omega
              have HM := hid hm
              clear hm hsh
              have HT := hid (take_snoc (b64s (tx t) i) k hk4)
              have HL := hid hlen
              by_cases hki : k ≤ t.size - i
              · go_wp2_with (at_builtin; refine row_append1 rfl _ _ rfl w.heap.size u3 _ rfl hown _ rfl rfl rfl (by simp; omega) hbw ?_; intro v' w1 hown1 hgr hat; have HR := hid hown1; have HG := hid hgr; clear hown1 hgr hat)
                go_roundg (gk - 1)
                case measure => omega
                case rel =>
                  refine ⟨k + 1, by omega, by go_num, ?_, ho.grown HG.out (fun g hg hw => by have := (hown.block hg).1; omega)⟩
                  have := HR.out
                  rw [HT.out]
                  rw [List.append_assoc] at this
                  have hz : (bits BinOp.and IntKind.i64 (↑n / 2 ^ (18 - 6 * k)) 63).toNat < b64tab.size := by
                    show _ < 64
                    omega
                  have e : b64s (tx t) i k = b64tab[(bits BinOp.and IntKind.i64 (↑n / 2 ^ (18 - 6 * k)) 63).toNat]'hz := by
                    unfold b64s
                    have hmod : n / 2 ^ (18 - 6 * k) % 64 < 64 := Nat.mod_lt _ (by decide)
                    rw [if_pos (by rw [tx_length]; omega), HN.out, ← b64_tab ⟨n / 2 ^ (18 - 6 * k) % 64, hmod⟩]
                    congr 1
                    rw [HM.out]
                    rfl
                  rw [e]
                  exact this
              · go_wp2_with (at_builtin; refine row_append1 rfl _ _ rfl w.heap.size u3 _ rfl hown 61 rfl rfl rfl (by simp; omega) hbw ?_; intro v' w1 hown1 hgr hat; have HR := hid hown1; have HG := hid hgr; clear hown1 hgr hat)
                go_roundg (gk - 1)
                case measure => omega
                case rel =>
                  refine ⟨k + 1, by omega, by go_num, ?_, ho.grown HG.out (fun g hg hw => by have := (hown.block hg).1; omega)⟩
                  have := HR.out
                  rw [HT.out]
                  rw [List.append_assoc] at this
                  have e : b64s (tx t) i k = 61 := by
                    unfold b64s
                    rw [if_neg (by rw [tx_length]; omega)]
                  rw [e]
                  exact this
            · obtain rfl : k = 4 := by omega
              go_wp2
              go_roundg (gk2 - 3)
              case measure => omega
              case rel =>
                refine ⟨i + 3, _, by omega, by go_num, hown, ho, by simp; omega, ?_⟩
                apply hid
                rw [hb.out, List.append_assoc, b64_chunk (tx t) i (by rw [tx_length]; exact hlt)]
                rfl
    · go_wp2_with (refine row_string rfl _ rfl _ _ _ rfl hown ?_)
      go_ret
      have := hb.out
      rw [List.drop_eq_nil_of_le (by rw [tx_length]; omega), b64, List.append_nil] at this
      rw [this]
      exact ⟨rfl, ho⟩
end Go.Proofs.YtbgckolcimlofaaGreatDoor
namespace Go.Proofs.YtbgckolcimlofaaGreatDoor
open Go.RowKit YtbgckolcimlofaaGreatDoorPj
theorem tryz_u23 : Tryz.prog.underlying 23 = some (.slice 25) := by kernel_rfl
theorem tryz_i25' : (Tryz.prog.info? 25).map (fun i => (i.zero, i.size, i.bytes)) = some (some (.agg #[.int .i64 0, .int .u64 0, .string ⟨#[]⟩, .int .i64 0, .slice none 0 0]), 5, 64) := by kernel_rfl
theorem tryz_i25 : ∃ i, Tryz.prog.info? 25 = some i ∧ i.zero = some (.agg #[.int .i64 0, .int .u64 0, .string ⟨#[]⟩, .int .i64 0, .slice none 0 0]) ∧ i.size = 5 ∧ i.bytes = 64 := by
  have h := tryz_i25'
  cases hi : Tryz.prog.info? 25 with
  | none => rw [hi] at h; cases h
  | some i =>
    rw [hi] at h
    simp at h
    exact ⟨i, rfl, h.1, h.2.1, h.2.2⟩

theorem flatMap_eq {α β : Type} {l : List α} {f g : α → List β} (h : ∀ x ∈ l, f x = g x) : l.flatMap f = l.flatMap g := by
  induction l with
  | nil => rfl
  | cons x r ih => simp only [List.flatMap_cons]; rw [h x (by simp), ih fun y hy => h y (by simp [hy])]
theorem flat5 (cs : Nat → List Value) (n : Nat) (h : ∀ j, j < n → (cs j).length = 5) : ((List.range n).flatMap cs).length = n * 5 := by
  induction n with
  | zero => rfl
  | succ n ih =>
    rw [List.range_succ, List.flatMap_append, List.length_append, ih fun j hj => h j (by omega)]
    simp [h n (by omega)]
    omega
theorem flat5_at (cs : Nat → List Value) (n : Nat) (h : ∀ j, j < n → (cs j).length = 5) (j i : Nat) (hj : j < n) (hi : i < 5) : ((List.range n).flatMap cs)[j * 5 + i]? = (cs j)[i]? := by
  induction n with
  | zero => omega
  | succ n ih =>
    have hl := flat5 cs n fun j hj => h j (by omega)
    rw [List.range_succ, List.flatMap_append]
    by_cases hjn : j < n
    · rw [List.getElem?_append_left (by omega)]
      exact ih (fun j hj => h j (by omega)) hjn
    · obtain rfl : j = n := by omega
      rw [List.getElem?_append_right (by omega), hl]
      simp
theorem IsPk.len {w : World} {ok : Nat → Prop} {p : P} {cs : List Value} (h : IsPk w ok p cs) : cs.length = 5 ∧ ∀ u ∈ cs, u.oneCell' = true := by
  cases h
  refine ⟨rfl, fun u hu => ?_⟩
  simp at hu
  rcases hu with rfl | rfl | rfl | rfl | rfl <;> rfl

/-- A slice of values that owns its row; nothing in them lies in that row. -/
structure PRow (w : World) (base : Nat) (ok : Nat → Prop) (v : Value) (ps : List P) : Prop where
  own : ∀ k, v.ownBlock = some k → ok k
  row : ∃ cs : Nat → List Value, (∀ (j : Nat) (hj : j < ps.length), IsPk w (fun k => ok k ∧ v.ownBlock ≠ some k) ps[j] (cs j)) ∧ w.ownsRow base 25 5 v ps.length ((List.range ps.length).flatMap cs)

theorem PRow.nil (w : World) (base : Nat) (ok : Nat → Prop) : PRow w base ok (.slice none 0 0) [] :=
  ⟨fun k (h : none = some k) => (nomatch h), fun _ => [], fun j hj => absurd hj (by simp), World.ownsRow_nil _ _ _ _⟩
theorem PRow.only {w w' : World} {base : Nat} {ok : Nat → Prop} {v : Value} {ps : List P} {S : Nat → Prop} (h : PRow w base ok v ps) (ho : Only S w w') (hS : ∀ k, k < w.heap.size → ok k → ¬ S k) : PRow w' base ok v ps := by
  obtain ⟨cs, hcs, hrow⟩ := h.row
  refine ⟨h.own, cs, fun j hj => (hcs j hj).keep fun k hk hok => ⟨hok, ho.block k hk (hS k hk hok.1)⟩, hrow.1, ?_⟩
  rcases hrow.2 with ⟨h1, h2⟩ | ⟨g, cap, cur, rfl, hb, hg, hn, hm, hs, ht⟩
  · exact Or.inl ⟨h1, h2⟩
  · have hlt := (Array.getElem?_eq_some_iff.1 hg).1
    exact Or.inr ⟨g, cap, cur, rfl, hb, (ho.block g hlt (hS g hlt (h.own g rfl))).trans hg, hn, hm, hs, ht⟩
theorem PRow.block {w : World} {base : Nat} {ok : Nat → Prop} {v : Value} {ps : List P} (h : PRow w base ok v ps) {k : Nat} (hk : v.ownBlock = some k) : base ≤ k ∧ k < w.heap.size := by
  obtain ⟨cs, hcs, hrow⟩ := h.row
  rcases hrow.2 with ⟨rfl, h2⟩ | ⟨g, cap, cur, rfl, hb, hg, hn, hm, hs, ht⟩
  · exact nomatch hk
  · have : g = k := by simpa [Value.ownBlock] using hk
    subst this
    exact ⟨hb, (Array.getElem?_eq_some_iff.1 hg).1⟩
theorem PRow.open {w : World} {base : Nat} {ok : Nat → Prop} {v : Value} {ps : List P} (h : PRow w base ok v ps) : ∃ A cap, v = .slice A ps.length cap := by
  obtain ⟨cs, hcs, hrow⟩ := h.row
  rcases hrow.2 with ⟨h1, h2⟩ | ⟨g, cap, cur, rfl, hb, hg, hn, hm, hs, ht⟩
  · exact ⟨none, 0, by rw [h1, h2]⟩
  · exact ⟨_, cap, rfl⟩
theorem PRow.open' {w : World} {base : Nat} {ok : Nat → Prop} {v : Value} {ps : List P} (h : PRow w base ok v ps) {n : Nat} (hn : ps.length = n) : ∃ A cap, v = .slice A n cap := hn ▸ h.open
theorem PRow.pk {w : World} {base : Nat} {ok : Nat → Prop} {A : Option Addr} {cap : Nat} {ps : List P} (h : PRow w base ok (.slice A ps.length cap) ps) (k n e : Int) (t : ByteArray) (hn0 : 0 ≤ n) (hn : n < 18446744073709551616) (ht : t.size ≤ 9223372036854775807) (hl : ps.length ≤ 9223372036854775807) :
    IsPk w ok (.mk k n t e ps) [.int .i64 k, .int .u64 n, .string t, .int .i64 e, .slice A ps.length cap] := by
  obtain ⟨cs, hcs, hrow⟩ := h.row
  refine .mk k n t e ps A cap cs hl hn0 hn ht (fun j hj => (hcs j hj).keep fun k hk hok => ⟨hok.1, rfl⟩) fun h0 => ?_
  rcases hrow.2 with ⟨h1, h2⟩ | ⟨g, cap', cur, he, hb, hg, hnn, hm, hs, ht⟩
  · omega
  · injection he with e1 e2 e3
    subst e1
    refine ⟨g, 0, rfl, h.own g rfl, fun j hj i u hu => ?_⟩
    have h5 : ∀ j, j < ps.length → (cs j).length = 5 := fun j hj => (hcs j hj).len.1
    have hi : i < 5 := by have := (List.getElem?_eq_some_iff.1 hu).1; have := h5 j hj; omega
    have := hrow.cells (g := g) rfl (j * 5 + i) u (by rw [flat5_at cs _ h5 j i hj hi]; exact hu)
    rwa [Addr.add_lit] at this

section
variable {w : World} {ops : Array Oper} {rest : List Oper} {o : Oper} {a : Act} {Q : Exit → Act → World → Prop}
/-- 'append(s, p)'. -/
theorem prow_push (hgd : o.guard = none) (s x : Operand) (ho : o.op = .call { callee := .builtin .append, args := #[s, x], argTypes := #[23, 23] }) {w0 : World} {base : Nat} {ok : Nat → Prop}
    (v : Value) (ps : List P) (hs : a.eval s = v) (hown : PRow w0 base ok v ps) (p : P) (cs : List Value) {gz : Nat} (hx : a.eval x = .slice (some ⟨gz, 0, none⟩) 1 1) (hgz : w0.heap.size = gz) (hw : w = w0.alloc (.cells cs.toArray 25))
    (hp : IsPk w0 (fun k => ok k ∧ v.ownBlock ≠ some k) p cs) (hok : ∀ k, w0.heap.size ≤ k → ok k) (hbase : base ≤ w0.heap.size) (hbig : ps.length + 1 ≤ 1000000)
    (h : ∀ v' w', PRow w' base ok v' (ps ++ [p]) → w0.grownBy w' v.ownBlock → wpList Tryz.prog ops Q rest (a.put o.dst v') w') :
    wpList Tryz.prog ops Q (o :: rest) a w := by
  subst hw hgz
  obtain ⟨i, hi, hz, hz1, hz2⟩ := tryz_i25
  obtain ⟨css, hcs, hrow⟩ := hown.row
  have h0 : Only (fun _ => False) w0 (w0.alloc (.cells cs.toArray 25)) := by simp
  have h5 : ∀ j, j < ps.length → (css j).length = 5 := fun j hj => (hcs j hj).len.1
  refine wpList_append_own_at _ hgd s x 23 ho base 25 i _ 5 64 tryz_u23 hi hz hz1 hz2 rfl (by decide) v ps.length _ hs (hrow.alloc _) ⟨w0.heap.size, 0, none⟩ 1 1 cs hx (by rw [hp.len.1]) ?_ hp.len.2 (by unfold maxLen; omega) (by omega) (by simp; omega) ?_
  · intro j u hu
    rw [Addr.add_lit, Nat.zero_add, World.cell?_alloc_mark]
    simpa using hu
  · intro v' w' h1 h2 _ h4
    have hg : w0.grownBy w' v.ownBlock := ⟨h2.os, h2.tape, h2.output, by have := h2.size; simp at this; omega, fun k hk hne => by
      rw [h2.block k (by simp; omega) hne]
      exact h0.block k hk (fun h => h)⟩
    have hown' : ∀ k, v'.ownBlock = some k → v.ownBlock = some k ∨ w0.heap.size ≤ k := fun k hk => by
      rcases h4 with h4 | h4
      · exact Or.inl (h4 ▸ hk)
      · rw [h4] at hk
        injection hk with hk
        simp at hk
        exact Or.inr (by omega)
    refine h v' w' ⟨fun k hk => ?_, fun j => if j < ps.length then css j else cs, fun j hj => ?_, ?_⟩ hg
    · rcases hown' k hk with h | h
      · exact hown.own k h
      · exact hok k h
    · have keep : ∀ {q : P} {c : List Value}, IsPk w0 (fun k => ok k ∧ v.ownBlock ≠ some k) q c → IsPk w' (fun k => ok k ∧ v'.ownBlock ≠ some k) q c := fun hq => hq.keep fun k hk hok => by
        refine ⟨⟨hok.1, fun e => ?_⟩, hg.block k hk fun e => hok.2 e.symm⟩
        rcases hown' k e with h | h
        · exact hok.2 h
        · omega
      by_cases hjl : j < ps.length
      · have e : (ps ++ [p])[j] = ps[j] := List.getElem_append_left hjl
        simp only [if_pos hjl, e]
        exact keep (hcs j hjl)
      · have : j = ps.length := by simp at hj; omega
        subst this
        simp
        exact keep hp
    · rw [List.length_append, List.length_singleton, List.range_succ, List.flatMap_append]
      have e1 : (List.range ps.length).flatMap (fun j => if j < ps.length then css j else cs) = (List.range ps.length).flatMap css := by
        exact flatMap_eq fun j hj => by rw [if_pos (List.mem_range.1 hj)]
      rw [e1]
      simpa using h1
end
end Go.Proofs.YtbgckolcimlofaaGreatDoor
