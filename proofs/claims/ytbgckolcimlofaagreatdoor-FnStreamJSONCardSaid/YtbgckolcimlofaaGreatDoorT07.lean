/-
  PeekByte, Skip, Next and Peek of the reader; where the bytes lie ahead.
  Plain facts on the bytes of whole numbers, high byte first; within their bounds.
-/
import Derived.Test.YtbgckolcimlofaaGreatDoorProg
import Derived.Test.YtbgckolcimlofaaGreatDoorT06
import Derived.Test.YtbgckolcimlofaaGreatDoorT01
set_option linter.unusedVariables false
set_option linter.unusedSimpArgs false
namespace Go.Proofs.YtbgckolcimlofaaGreatDoor
open Go.RowKit YtbgckolcimlofaaGreatDoorPj

theorem more (w : World) (F : Nat → Prop) (s at_ n : Nat) (room : Value) (buf rest : List UInt8) (h : Src w F s room at_ buf rest) (hle : n ≤ buf.length - at_ + rest.length) :
    Calls Tryz.prog 63 #[.pointer (some ⟨s, 0, none⟩), .int .i64 (n : Nat)] w (MorePost F s n (buf.drop at_ ++ rest) w) := by
  have := h.hat
  by_cases hn : n + at_ ≤ buf.length
  · exact more_has w F s at_ n room buf rest h hn
  · exact more_reads w F s at_ n room buf rest h (by omega) hle
/-- A reader that has 'all' ahead of it. -/
def Rd (w : World) (F : Nat → Prop) (s : Nat) (all : List UInt8) : Prop := ∃ room at_ buf rest, Src w F s room at_ buf rest ∧ buf.drop at_ ++ rest = all
theorem Rd.only {w w' : World} {F S : Nat → Prop} {s : Nat} {all : List UInt8} (h : Rd w F s all) (ho : Only S w w') (hS : ∀ k, F k → ¬ S k) : Rd w' F s all := by
  obtain ⟨room, at_, buf, rest, h, e⟩ := h
  exact ⟨room, at_, buf, rest, h.only ho hS, e⟩
theorem Rd.lt {w : World} {F : Nat → Prop} {s : Nat} {all : List UInt8} (h : Rd w F s all) : ∀ k, F k → k < w.heap.size := by
  obtain ⟨room, at_, buf, rest, h, e⟩ := h
  exact h.lt
theorem Rd.fs {w : World} {F : Nat → Prop} {s : Nat} {all : List UInt8} (h : Rd w F s all) : F s := by
  obtain ⟨room, at_, buf, rest, h, e⟩ := h
  exact h.fs
theorem Rd.big {w : World} {F : Nat → Prop} {s : Nat} {all : List UInt8} (h : Rd w F s all) : all.length ≤ 1099511627776 := by
  obtain ⟨room, at_, buf, rest, h, rfl⟩ := h
  have := h.big
  rw [List.length_append, List.length_drop]
  omega
theorem Src.adv {w : World} {F : Nat → Prop} {s at_ n : Nat} {room : Value} {buf rest : List UInt8} {z : Int} (h : Src w F s room at_ buf rest) (hn : n + at_ ≤ buf.length) (hz : z = ((at_ + n : Nat) : Int)) :
    Src (w.setCell ⟨s, 2, none⟩ (.int .i64 z)) F s room (at_ + n) buf rest ∧ Only F w (w.setCell ⟨s, 2, none⟩ (.int .i64 z)) := by
  subst hz
  have ho2 : Only (fun k => k = s) w (w.setCell ⟨s, 2, none⟩ (.int .i64 ((at_ + n : Nat) : Int))) := Only.setCell (S := fun k => k = s) (p := ⟨s, 2, none⟩) (Only.refl _ _) (fun _ => rfl) _
  obtain ⟨d, E, c0, hd, e1, e2, e3, e4, e5, e6⟩ := h.c0
  have k1 := h.c1
  have k2 := h.c2
  have k3 := h.c3
  have k4 := h.c4
  have g1 := h.f1
  have g2 := h.f2
  have g4 := h.f4
  refine ⟨⟨⟨d, E, by go_simp, hd.only ho2 e2 (fun k hk e => e4 (e ▸ hk)), e1, e2, e3, e4, e5, e6⟩, by go_simp, by go_simp, by go_simp, by go_simp, by go_simp, by go_simp, by go_simp, h.row.only ho2 (fun k hk e => (h.own k hk).2 e), by omega, h.big, h.cap, h.own, h.fs, fun k hk => ?_⟩, ho2.mono fun k _ e => e ▸ h.fs⟩
  have := h.lt k hk
  simpa using this
/-- Bytes that lie ahead. -/
theorem Src.at {w : World} {F : Nat → Prop} {s at_ n cap : Nat} {A : Option Addr} {buf rest : List UInt8} (h : Src w F s (.slice A n cap) at_ buf rest) (j : Nat) (hj : at_ + j < buf.length) : ∃ g, A = some ⟨g, 0, none⟩ ∧ F g ∧ w.cell? ⟨g, at_ + j, none⟩ = some (u8v buf[at_ + j]) := by
  have hr := h.row
  rcases hr.open with ⟨_, e⟩ | ⟨g, c, e, _, hg, hc, _, hcell⟩
  · have : buf.length = 0 := by rw [e]; rfl
    omega
  · injection e with e1 e2 e3
    exact ⟨g, e1, (h.own g (by rw [e1]; rfl)).1, hcell _ hj⟩
theorem MorePost.get {F : Nat → Prop} {s n : Nat} {all : List UInt8} {w w' : World} {e : Ending} (h : MorePost F s n all w e w') : e = .returned (.tuple #[]) ∧ ∃ F' A nb cap atq buf' rest',
    Hid (Src w' F' s (.slice A nb cap) atq buf' rest') ∧ Hid (buf'.drop atq ++ rest' = all) ∧ Hid (buf'.length = nb) ∧ n + atq ≤ nb ∧ nb ≤ cap ∧ cap ≤ 4398046511104 ∧ nb ≤ 1099511627776 ∧
    w'.cell? ⟨s, 1, none⟩ = some (.slice A nb cap) ∧ w'.cell? ⟨s, 2, none⟩ = some (.int .i64 (atq : Nat)) ∧ w'.frozen? ⟨s, 2, none⟩ = false ∧ Hid (Newer F F' w) ∧ Hid (Only F w w') ∧ s < w'.heap.size := by
  obtain ⟨rfl, F', room', atq, buf', rest', h1, h2, h3, h4, h5⟩ := h
  obtain ⟨A, cap, rfl, hc1, hc2⟩ := h1.room
  have := h1.big
  exact ⟨rfl, F', A, buf'.length, cap, atq, buf', rest', hid h1, hid h2, hid rfl, h3, hc1, hc2, by omega, h1.c1, h1.c2, h1.f2, hid h4, hid h5, h1.lt s h1.fs⟩
theorem Src.ahead {w : World} {F : Nat → Prop} {s at_ nb cap : Nat} {A : Option Addr} {buf rest all : List UInt8} (h : Src w F s (.slice A nb cap) at_ buf rest) (hall : buf.drop at_ ++ rest = all) (hB : buf.length = nb) (j : Nat) (hj : j < all.length) (hn : j + at_ < nb) :
    ∃ g, A = some ⟨g, 0, none⟩ ∧ F g ∧ w.cell? ⟨g, at_ + j, none⟩ = some (u8v all[j]) := by
  obtain ⟨g, e, hg, hc⟩ := h.at j (by omega)
  refine ⟨g, e, hg, ?_⟩
  subst hall
  rw [List.getElem_append_left (by rw [List.length_drop]; omega), List.getElem_drop]
  exact hc
theorem Src.rd {w : World} {F : Nat → Prop} {s at_ : Nat} {room : Value} {buf rest all : List UInt8} (h : Src w F s room at_ buf rest) (hall : buf.drop at_ ++ rest = all) : Rd w F s all := ⟨_, _, _, _, h, hall⟩
theorem Src.rd_adv {w : World} {F : Nat → Prop} {s at_ nb n : Nat} {room : Value} {buf rest all : List UInt8} (h : Src w F s room (at_ + n) buf rest) (hall : buf.drop at_ ++ rest = all) (hB : buf.length = nb) (hn : n + at_ ≤ nb) : Rd w F s (all.drop n) := by
  refine ⟨_, _, _, _, h, ?_⟩
  subst hall
  rw [List.drop_append_of_le_length (by rw [List.length_drop]; omega), List.drop_drop]
theorem Rd.call {w : World} {F : Nat → Prop} {s : Nat} {all : List UInt8} (h : Rd w F s all) (n : Nat) (hn : n ≤ all.length) : Calls Tryz.prog 63 #[.pointer (some ⟨s, 0, none⟩), .int .i64 (n : Nat)] w (MorePost F s n all w) := by
  obtain ⟨room, at_, buf, rest, h, rfl⟩ := h
  rw [List.length_append, List.length_drop] at hn
  exact more w F s at_ n room buf rest h hn
def PeekBytePost (F : Nat → Prop) (s : Nat) (b : UInt8) (r : List UInt8) (w : World) (e : Ending) (w' : World) : Prop :=
  e = .returned (.tuple #[.int .u8 (b.toNat : Int), .nilIface]) ∧ ∃ F', Rd w' F' s (b :: r) ∧ Newer F F' w ∧ Only F w w'
set_option maxRecDepth 100000 in
set_option maxHeartbeats 1000000 in
theorem peekByte (w : World) (F : Nat → Prop) (s : Nat) (b : UInt8) (r : List UInt8) (h : Rd w F s (b :: r)) :
    Calls Tryz.prog 45 #[.pointer (some ⟨s, 0, none⟩)] w (PeekBytePost F s b r w) := by
  have HM := hid (h.call 1 (by simp))
  clear h
  go_enter Tryz.func45, Tryz.ntmps45
  go_wp2_with (go_at_call 63; refine HM.out.mono ?_; rintro e w1 hm; obtain ⟨rfl, F', A, nb, cap, atq, buf', rest', HS, HALL, HB, h1, h2, h3, h4, c1, c2, f2, HN, HO, hsl⟩ := hm.get; obtain ⟨g, rfl, -, c3⟩ := HS.out.ahead HALL.out HB.out 0 (by simp) (by omega); clear hm)
  have c4 : w1.cell? ⟨g, atq, none⟩ = some (.int .u8 (b.toNat : Int)) := c3
  have hd : ((nb : Int) == atq) = false := by simp; omega
  have hd2 : ((atq : Int) == nb) = false := by simp; omega
  have hi : (atq : Int) < nb := by omega
  have hi0 : (0 : Int) ≤ atq := by omega
  go_quiet (fail)
  go_wp2
  go_quiet (fail)
  go_wp2
  go_ret2
  exact ⟨rfl, F', (HS.out.only (Only.drewN (Only.drewN (Only.refl (fun _ => False) _) _) _) (fun _ _ h => h)).rd HALL.out, HN.out, (HO.out.drewN _).drewN _⟩
/-- Bytes that lie in the reader's room. -/
def InRoom (w : World) (F : Nat → Prop) (v : Value) (bs : List UInt8) : Prop :=
  ∃ A c, v = .slice A bs.length c ∧ bs.length ≤ c ∧ c ≤ 4398046511104 ∧ ∀ j (h : j < bs.length), ∃ b off, A = some ⟨b, off, none⟩ ∧ F b ∧ w.cell? ⟨b, off + j, none⟩ = some (u8v bs[j])
theorem InRoom.only {w w' : World} {F S : Nat → Prop} {v : Value} {bs : List UInt8} (h : InRoom w F v bs) (ho : Only S w w') (hS : ∀ k, F k → ¬ S k) : InRoom w' F v bs := by
  obtain ⟨A, c, rfl, h1, h2, h3⟩ := h
  refine ⟨A, c, rfl, h1, h2, fun j hj => ?_⟩
  obtain ⟨b, off, hA, hb, hc⟩ := h3 j hj
  exact ⟨b, off, hA, hb, (ho.cell (World.block_lt_of_cell? w _ hc) (hS b hb)).trans hc⟩
theorem Src.inRoom {w : World} {F : Nat → Prop} {s at_ at2 nb cap n c : Nat} {A : Option Addr} {buf rest all : List UInt8} (h : Src w F s (.slice A nb cap) at2 buf rest) (hall : buf.drop at_ ++ rest = all) (hB : buf.length = nb) (hn : n + at_ ≤ nb) (hna : n ≤ all.length) (SP : Option Addr)
    (hSP : 0 < n → ∀ g, A = some ⟨g, 0, none⟩ → SP = some ⟨g, at_, none⟩) (hc : n ≤ c ∧ c ≤ 4398046511104) : InRoom w F (.slice SP n c) (all.take n) := by
  have hl : (all.take n).length = n := by rw [List.length_take]; omega
  refine ⟨SP, c, by rw [hl], by omega, hc.2, fun j hj => ?_⟩
  have hr := h.row
  rcases hr.open with ⟨_, e⟩ | ⟨g, c', e, _, hg, hc', _, hcell⟩
  · have : buf.length = 0 := by rw [e]; rfl
    omega
  · injection e with e1 e2 e3
    refine ⟨g, at_, hSP (by omega) g e1, (h.own g (by rw [e1]; rfl)).1, ?_⟩
    have := hcell (at_ + j) (by omega)
    subst hall
    rw [List.getElem_take, List.getElem_append_left (by rw [List.length_drop]; omega), List.getElem_drop]
    exact this
def NextPost (F : Nat → Prop) (s n : Nat) (all : List UInt8) (w : World) (e : Ending) (w' : World) : Prop :=
  ∃ v F', e = .returned (.tuple #[v, .nilIface]) ∧ InRoom w' F' v (all.take n) ∧ Rd w' F' s (all.drop n) ∧ Newer F F' w ∧ Only F w w'
def PeekPost (F : Nat → Prop) (s n : Nat) (all : List UInt8) (w : World) (e : Ending) (w' : World) : Prop :=
  ∃ v F', e = .returned (.tuple #[v, .nilIface]) ∧ InRoom w' F' v (all.take n) ∧ Rd w' F' s all ∧ Newer F F' w ∧ Only F w w'
def SkipPost (F : Nat → Prop) (s n : Nat) (all : List UInt8) (w : World) (e : Ending) (w' : World) : Prop :=
  e = .returned (.tuple #[.int .i64 (n : Nat), .nilIface]) ∧ ∃ F', Rd w' F' s (all.drop n) ∧ Newer F F' w ∧ Only F w w'
set_option maxRecDepth 100000 in
set_option maxHeartbeats 1000000 in
theorem skip (w : World) (F : Nat → Prop) (s n : Nat) (all : List UInt8) (h : Rd w F s all) (hn : n ≤ all.length) :
    Calls Tryz.prog 68 #[.pointer (some ⟨s, 0, none⟩), .int .i64 (n : Nat)] w (SkipPost F s n all w) := by
  have HM := hid (h.call n hn)
  have hn2 : n ≤ 1099511627776 := by have := h.big; omega
  clear h
  go_enter Tryz.func68, Tryz.ntmps68
  go_wp2_with (go_at_call 63; refine HM.out.mono ?_; rintro e w1 hm; obtain ⟨rfl, F', A, nb, cap, atq, buf', rest', HS, HALL, HB, h1, h2, h3, h4, c1, c2, f2, HN, HO, hsl⟩ := hm.get; clear hm)
  have hw1 : IntKind.i64.wrap ((nb : Int) - (atq : Int)) = (nb : Int) - atq := IntWalk.i64_in _ (by omega)
  have hd1 : decide ((nb : Int) - (atq : Int) < n) = false := by simp; omega
  have hd2 : (n : Int) ≤ (nb : Int) - atq := by omega
  go_quiet (fail)
  go_wp2
  go_ret2
  have hav := Src.adv (n := n) (z := (atq : Int) + n) (HS.out.only (Only.drewN (Only.refl (fun _ => False) _) nq) (fun _ _ h => h)) (by have := HB.out; omega) (by omega)
  exact ⟨rfl, F', hav.1.rd_adv HALL.out HB.out (by omega), HN.out, (HO.out.drewN _).trans' hav.2 (fun i hi h => by rcases HN.out i h with h | h; exact h; omega)⟩
set_option maxRecDepth 100000 in
set_option maxHeartbeats 1000000 in
theorem next (w : World) (F : Nat → Prop) (s n : Nat) (all : List UInt8) (h : Rd w F s all) (hn : n ≤ all.length) :
    Calls Tryz.prog 69 #[.pointer (some ⟨s, 0, none⟩), .int .i64 (n : Nat)] w (NextPost F s n all w) := by
  have HM := hid (h.call n hn)
  have hn2 : n ≤ 1099511627776 := by have := h.big; omega
  have HNA := hid hn
  clear h hn
  go_enter Tryz.func69, Tryz.ntmps69
  go_wp2_with (go_at_call 63; refine HM.out.mono ?_; rintro e w1 hm; obtain ⟨rfl, F', A, nb, cap, atq, buf', rest', HS, HALL, HB, h1, h2, h3, h4, c1, c2, f2, HN, HO, hsl⟩ := hm.get; clear hm)
  have hw1 : IntKind.i64.wrap ((nb : Int) - (atq : Int)) = (nb : Int) - atq := IntWalk.i64_in _ (by omega)
  have hw2 : IntKind.i64.wrap ((atq : Int) + (n : Int)) = (atq : Int) + n := IntWalk.i64_in _ (by omega)
  have hd1 : decide ((nb : Int) - (atq : Int) < n) = false := by simp; omega
  have hd2 : (n : Int) ≤ (nb : Int) - atq := by omega
  go_quiet (fail)
  go_wp2
  obtain ⟨nq1, rfl⟩ : ∃ k, k = nq := ⟨nq, rfl⟩
  have hb1 : (0 : Int) ≤ atq := by omega
  have hb2 : (atq : Int) ≤ (atq : Int) + n := by omega
  have hb3 : (atq : Int) + n ≤ cap := by omega
  go_quiet (fail)
  go_wp2
  all_goals
    go_ret2
    have hs1 := HS.out.only (S := fun _ => False) (Only.drewN (Only.refl (fun _ => False) w1) (nq1 + nq)) (fun _ _ h => h)
    have hav := Src.adv (n := n) (z := (atq : Int) + n) hs1 (by have := HB.out; omega) (by omega)
    refine ⟨_, F', rfl, hav.1.inRoom HALL.out HB.out (by omega) HNA.out _ ?_ (by omega), hav.1.rd_adv HALL.out HB.out (by omega), HN.out, (HO.out.drewN (nq1 + nq)).trans' hav.2 (fun i hi h => by rcases HN.out i h with h | h; exact h; omega)⟩
    intro h0 g e
    first
      | (exfalso; omega)
      | (rw [e]; exact sp_of g atq)
set_option maxRecDepth 100000 in
set_option maxHeartbeats 1000000 in
theorem peek (w : World) (F : Nat → Prop) (s n : Nat) (all : List UInt8) (h : Rd w F s all) (hn : n ≤ all.length) :
    Calls Tryz.prog 96 #[.pointer (some ⟨s, 0, none⟩), .int .i64 (n : Nat)] w (PeekPost F s n all w) := by
  have HM := hid (h.call n hn)
  have hn2 : n ≤ 1099511627776 := by have := h.big; omega
  have HNA := hid hn
  clear h hn
  go_enter Tryz.func96, Tryz.ntmps96
  go_wp2_with (go_at_call 63; refine HM.out.mono ?_; rintro e w1 hm; obtain ⟨rfl, F', A, nb, cap, atq, buf', rest', HS, HALL, HB, h1, h2, h3, h4, c1, c2, f2, HN, HO, hsl⟩ := hm.get; clear hm)
  have hw1 : IntKind.i64.wrap ((nb : Int) - (atq : Int)) = (nb : Int) - atq := IntWalk.i64_in _ (by omega)
  have hw2 : IntKind.i64.wrap ((atq : Int) + (n : Int)) = (atq : Int) + n := IntWalk.i64_in _ (by omega)
  have hd1 : decide ((nb : Int) - (atq : Int) < n) = false := by simp; omega
  have hd2 : (n : Int) ≤ (nb : Int) - atq := by omega
  go_quiet (fail)
  go_wp2
  obtain ⟨nq1, rfl⟩ : ∃ k, k = nq := ⟨nq, rfl⟩
  have hb1 : (0 : Int) ≤ atq := by omega
  have hb2 : (atq : Int) ≤ (atq : Int) + n := by omega
  have hb3 : (atq : Int) + n ≤ cap := by omega
  go_quiet (fail)
  go_wp2
  all_goals
    go_ret2
    have hs1 := HS.out.only (S := fun _ => False) (Only.drewN (Only.refl (fun _ => False) w1) (nq1 + nq)) (fun _ _ h => h)
    refine ⟨_, F', rfl, hs1.inRoom HALL.out HB.out (by omega) HNA.out _ ?_ (by omega), hs1.rd HALL.out, HN.out, (HO.out.drewN (nq1 + nq))⟩
    intro h0 g e
    first
      | (exfalso; omega)
      | (rw [e]; exact sp_of g atq)
end Go.Proofs.YtbgckolcimlofaaGreatDoor
namespace Go.Proofs.YtbgckolcimlofaaGreatDoor
open Go.RowKit YtbgckolcimlofaaGreatDoorPj

theorem wrap_emod (k : IntKind) (x : Int) : k.wrap (x % 2 ^ k.bits) = k.wrap x := by
  cases k <;> simp [IntKind.wrap, IntKind.bits, IntKind.signed]
theorem wrap_mod (k : IntKind) (x : Int) : k.wrap x % 2 ^ k.bits = x % 2 ^ k.bits := by
  cases k <;> simp [IntKind.wrap, IntKind.bits, IntKind.signed] <;> split <;> omega
theorem ofInt_wrap (k : IntKind) (a : Nat) : BitVec.ofInt k.bits (k.wrap (a : Int)) = BitVec.ofNat k.bits a := by
  apply BitVec.eq_of_toNat_eq
  rw [BitVec.toNat_ofInt, BitVec.toNat_ofNat]
  have := wrap_mod k a
  have e : ((2 ^ k.bits : Nat) : Int) = 2 ^ k.bits := by simp
  rw [e, this, ← e]
  omega
/-- 'x | y', x a multiple of 2^s and y below it, both as they stand in k bits. -/
theorem or_wrap (k : IntKind) (s : Nat) (a b : Nat) (ha : a % 2 ^ s = 0) (hb : b < 2 ^ s) : bits .or k (k.wrap (a : Int)) (k.wrap (b : Int)) = k.wrap ((a + b : Nat) : Int) := by
  unfold bits
  rw [ofInt_wrap, ofInt_wrap]
  simp only [BitVec.toNat_or, BitVec.toNat_ofNat]
  have h1 : a ||| b = a + b := by
    have hq : a = 2 ^ s * (a / 2 ^ s) := by
      have := Nat.div_add_mod a (2 ^ s)
      omega
    rw [hq, ← Nat.two_pow_add_eq_or_of_lt hb (a / 2 ^ s)]
  have h2 : a % 2 ^ k.bits ||| b % 2 ^ k.bits = (a + b) % 2 ^ k.bits := by
    rw [← Nat.or_mod_two_pow, h1]
  rw [h2]
  have e : (((a + b) % 2 ^ k.bits : Nat) : Int) = ((a + b : Nat) : Int) % 2 ^ k.bits := by simp
  rw [e, wrap_emod]
end Go.Proofs.YtbgckolcimlofaaGreatDoor
