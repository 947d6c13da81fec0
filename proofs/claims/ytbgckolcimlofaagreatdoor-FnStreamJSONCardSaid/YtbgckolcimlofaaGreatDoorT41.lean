/-
  PeekByte, NextType and rwNext with nothing ahead answer io.EOF; where io.EOF is laid.
  PLAIN WORDS of the parser: what is read back is the same value; for values that fit.
  Plain facts on the first byte of the JSON; for values that fit.
  The parser: blank, fail; for every text.
  The parser: eat, a byte that must come; for every text.
-/
import Derived.Test.YtbgckolcimlofaaGreatDoorProg
import Derived.Test.YtbgckolcimlofaaGreatDoorT40
import Derived.Test.YtbgckolcimlofaaGreatDoorT01
import Derived.Test.YtbgckolcimlofaaGreatDoorT16
import Derived.Test.YtbgckolcimlofaaGreatDoorT02
import Derived.Test.YtbgckolcimlofaaGreatDoorT24
import Derived.Test.YtbgckolcimlofaaGreatDoorT30
import Derived.Deep.QuietTactic
import Derived.BigQuiet
import Derived.Deep.LoopGhost
import Derived.Deep.DeepCutAuto
import Derived.Handy
import Derived.StillTailTactics
import Derived.Deep.RegionHeld3
set_option linter.unusedVariables false
set_option linter.unusedSimpArgs false
namespace Go.Proofs.YtbgckolcimlofaaGreatDoor
open Go.RowKit YtbgckolcimlofaaGreatDoorPj

/-- What is returned at the end of the data. -/
def EndRet (F : Nat → Prop) (x v : Value) (w : World) (e : Ending) (w' : World) : Prop := e = .returned (.tuple #[x, v]) ∧ Only F w w'
set_option maxRecDepth 100000 in
set_option maxHeartbeats 1000000 in
theorem peekByte_end (w : World) (F : Nat → Prop) (s : Nat) (v : Value) (h : Rd w F s []) (hv : EofAt w v) (hF0 : ¬ F 0) :
    Calls Tryz.prog 45 #[.pointer (some ⟨s, 0, none⟩)] w (EndRet F (.int .u8 0) v w) := by
  have HM : Hid (Calls Tryz.prog 63 #[.pointer (some ⟨s, 0, none⟩), .int .i64 1] w (EndPost F s v w)) := by
    obtain ⟨room, at_, buf, rest, hs, he⟩ := h
    have h1 := List.append_eq_nil_iff.1 he
    have h2 : buf.length ≤ at_ := List.drop_eq_nil_iff.1 h1.1
    have h3 := hs.hat
    obtain rfl : at_ = buf.length := by omega
    obtain rfl := h1.2
    exact more_end w F s room v buf hs hv hF0
  obtain ⟨q, rfl⟩ := hv.2
  clear h hv
  go_enter Tryz.func45, Tryz.ntmps45
  go_wp2_with (go_at_call 63; refine HM.out.mono ?_; rintro e w1 ⟨rfl, ⟨⟨A, cap, c1⟩, c2, c4⟩, ho⟩; have HO := hid ho; clear ho)
  go_quiet (fail)
  go_wp2
  go_quiet (fail)
  go_wp2
  go_ret2
  exact ⟨rfl, (HO.out.drewN _).drewN _⟩
set_option maxRecDepth 100000 in
set_option maxHeartbeats 1000000 in
theorem nextType_end (w : World) (F : Nat → Prop) (m s : Nat) (v : Value) (h : Rd w F s []) (hv : EofAt w v) (hF0 : ¬ F 0) (c0 : w.cell? ⟨m, 0, none⟩ = some (.pointer (some ⟨s, 0, none⟩))) :
    Calls Tryz.prog 40 #[.pointer (some ⟨m, 0, none⟩)] w (EndRet F (.int .u8 0) v w) := by
  have HM := hid (peekByte_end w F s v h hv hF0)
  obtain ⟨q, rfl⟩ := hv.2
  clear h hv
  go_enter Tryz.func40, Tryz.ntmps40
  go_wp2_with (go_at_call 45; refine HM.out.mono ?_; rintro e w1 ⟨rfl, ho⟩; have HO := hid ho; clear ho)
  go_ret2
  exact ⟨rfl, HO.out⟩
set_option maxRecDepth 100000 in
set_option maxHeartbeats 1000000 in
theorem rwNext_end (w : World) (F : Nat → Prop) (m s : Nat) (v x : Value) (h : Rd w F s []) (hv : EofAt w v) (hF0 : ¬ F 0) (c0 : w.cell? ⟨m, 0, none⟩ = some (.pointer (some ⟨s, 0, none⟩))) :
    Calls Tryz.prog 29 #[x, .pointer (some ⟨m, 0, none⟩)] w (EndRet F (.int .i64 0) v w) := by
  have HM := hid (nextType_end w F m s v h hv hF0 c0)
  obtain ⟨q, rfl⟩ := hv.2
  clear h hv
  go_enter Tryz.func29, Tryz.ntmps29
  go_wp2_with (go_at_call 40; refine HM.out.mono ?_; rintro e w1 ⟨rfl, ho⟩; have HO := hid ho; clear ho)
  go_ret2
  exact ⟨rfl, HO.out⟩
end Go.Proofs.YtbgckolcimlofaaGreatDoor
namespace YtbgckolcimlofaaGreatDoorPj
open Go.Lib

/-- How a text stands in JSON, piece by piece. -/
inductive Un : List UInt8 → List UInt8 → Prop where
  | nil : Un [] []
  | plain (b : UInt8) (j t : List UInt8) (h1 : 32 ≤ b.toNat) (h2 : b.toNat ≠ 34) (h3 : b.toNat ≠ 92) (h : Un j t) : Un (b :: j) (b :: t)
  | sign (c d : UInt8) (j t : List UInt8) (hc : (c.toNat = 34 ∧ d.toNat = 34) ∨ (c.toNat = 92 ∧ d.toNat = 92) ∨ (c.toNat = 110 ∧ d.toNat = 10) ∨ (c.toNat = 114 ∧ d.toNat = 13) ∨ (c.toNat = 116 ∧ d.toNat = 9)) (h : Un j t) : Un (92 :: c :: j) (d :: t)
  | hex (b : UInt8) (j t : List UInt8) (hb : b.toNat < 64) (h : Un j t) : Un (92 :: 117 :: 48 :: 48 :: hexd (b.toNat / 16) :: hexd (b.toNat % 16) :: j) (b :: t)
  | sep (k : Nat) (hk : k = 56 ∨ k = 57) (j t : List UInt8) (h : Un j t) : Un (92 :: 117 :: 50 :: 48 :: 50 :: UInt8.ofNat k :: j) (226 :: 128 :: UInt8.ofNat (k + 112) :: t)
theorem un_escB (b : UInt8) (j t : List UInt8) (h : Un j t) : Un (escB b ++ j) (b :: t) := by
  have hb := b.toNat_lt
  by_cases h1 : b.toNat = 92 ∨ b.toNat = 34
  · rw [escB_bs b h1]
    exact .sign b b j t (by omega) h
  · by_cases h2 : b.toNat = 10
    · rw [escB_10 b h2]
      exact .sign 110 b j t (Or.inr (Or.inr (Or.inl ⟨rfl, h2⟩))) h
    · by_cases h3 : b.toNat = 13
      · rw [escB_13 b h3]
        exact .sign 114 b j t (Or.inr (Or.inr (Or.inr (Or.inl ⟨rfl, h3⟩)))) h
      · by_cases h4 : b.toNat = 9
        · rw [escB_9 b h4]
          exact .sign 116 b j t (Or.inr (Or.inr (Or.inr (Or.inr ⟨rfl, h4⟩)))) h
        · by_cases h5 : b.toNat < 32 ∨ b.toNat = 60 ∨ b.toNat = 62 ∨ b.toNat = 38
          · rw [escB_hex b h5 h2 h3 h4]
            exact .hex b j t (by omega) h
          · rw [escB_plain b (by omega) (by omega) (by omega) (by omega) (by omega) (by omega)]
            exact .plain b j t (by omega) (by omega) (by omega) h
theorem un_esc : ∀ (n : Nat) (l : List UInt8), l.length = n → Un (esc l) l := by
  intro n
  induction n using Nat.strongRecOn with
  | _ n ih =>
    intro l hl
    match l, hl with
    | [], _ => rw [esc]; exact .nil
    | b :: r, hl =>
      rw [esc]
      split
      · rename_i h
        obtain ⟨rfl, h0, h1⟩ := h
        match r, h0, h1, hl with
        | a :: c :: r', h0, h1, hl =>
          have ha : a = 128 := by simpa using h0
          subst ha
          have hr := ih r'.length (by simp at hl; omega) r' rfl
          rcases h1 with h1 | h1
          · have hc : c = 168 := by simpa using h1
            subst hc
            exact .sep 56 (Or.inl rfl) _ _ hr
          · have hc : c = 169 := by simpa using h1
            subst hc
            exact .sep 57 (Or.inr rfl) _ _ hr
      · exact un_escB b _ r (ih r.length (by simp at hl; omega) r rfl)
theorem un_plain : ∀ (l : List UInt8) (_ : ∀ b ∈ l, 32 ≤ b.toNat ∧ b.toNat ≠ 34 ∧ b.toNat ≠ 92), Un l l
  | [], _ => .nil
  | b :: r, h => .plain b r r (h b (by simp)).1 (h b (by simp)).2.1 (h b (by simp)).2.2 (un_plain r fun c hc => h c (by simp [hc]))
theorem b64c_plain : ∀ n : Fin 64, 43 ≤ (b64c n.val).toNat ∧ (b64c n.val).toNat ≠ 92 ∧ (b64c n.val).toNat < 128 := by decide
theorem b64c_plain' (n : Nat) (h : n < 64) : 43 ≤ (b64c n).toNat ∧ (b64c n).toNat ≠ 92 ∧ (b64c n).toNat < 128 := b64c_plain ⟨n, h⟩
theorem b64_plain : ∀ (l : List UInt8), ∀ b ∈ b64 l, 43 ≤ b.toNat ∧ b.toNat ≠ 92 ∧ b.toNat < 128 := by
  intro l
  induction l using b64.induct with
  | case1 => intro b hb; simp [b64] at hb
  | case2 a =>
    have ha := a.toNat_lt
    intro b hb
    simp [b64] at hb
    rcases hb with rfl | rfl | rfl
    · exact b64c_plain' _ (by omega)
    · exact b64c_plain' _ (by omega)
    · decide
  | case3 a c =>
    have ha := a.toNat_lt
    have hc := c.toNat_lt
    intro b hb
    simp [b64] at hb
    rcases hb with rfl | rfl | rfl | rfl
    · exact b64c_plain' _ (by omega)
    · exact b64c_plain' _ (by omega)
    · exact b64c_plain' _ (by omega)
    · decide
  | case4 a c d r ih =>
    have ha := a.toNat_lt
    have hc := c.toNat_lt
    have hd := d.toNat_lt
    intro b hb
    simp [b64] at hb
    rcases hb with rfl | rfl | rfl | rfl | hb
    · exact b64c_plain' _ (by omega)
    · exact b64c_plain' _ (by omega)
    · exact b64c_plain' _ (by omega)
    · exact b64c_plain' _ (by omega)
    · exact ih b hb
theorem un_b64 (l : List UInt8) : Un (b64 l) (b64 l) := un_plain _ fun b hb => by have := b64_plain l b hb; omega
theorem ascii_valid : ∀ (l : List UInt8) (_ : ∀ b ∈ l, b.toNat < 128), validD l = true
  | [], _ => by rfl
  | b :: r, h => by rw [validD_cons b r (h b (by simp))]; exact ascii_valid r fun c hc => h c (by simp [hc])
theorem b64_valid (l : List UInt8) : validD (b64 l) = true := ascii_valid _ fun b hb => (b64_plain l b hb).2.2

/-- The number that digits tell. -/
def dig (l : List UInt8) : Nat := l.foldl (fun u b => 10 * u + (b.toNat - 48)) 0
theorem dig_snoc (l : List UInt8) (b : UInt8) : dig (l ++ [b]) = 10 * dig l + (b.toNat - 48) := by simp [dig]
def IsDig (b : UInt8) : Prop := 48 ≤ b.toNat ∧ b.toNat ≤ 57
theorem decN_small (n : Nat) (h : n < 10) : decN n = [UInt8.ofNat (48 + n)] := by rw [decN, if_pos h]
theorem decN_big (n : Nat) (h : ¬ n < 10) : decN n = decN (n / 10) ++ [UInt8.ofNat (48 + n % 10)] := by rw [decN, if_neg h]
theorem ofNat_toNat {n : Nat} (h : n < 256) : (UInt8.ofNat n).toNat = n := u8_toNat_ofNat h
theorem decN_facts (n : Nat) : dig (decN n) = n ∧ (∀ b ∈ decN n, IsDig b) ∧ (0 < n → ∃ b r, decN n = b :: r ∧ b.toNat ≠ 48) := by
  induction n using Nat.strongRecOn with
  | _ n ih =>
    by_cases h : n < 10
    · rw [decN_small n h]
      have e := ofNat_toNat (n := 48 + n) (by omega)
      refine ⟨?_, ?_, fun h0 => ⟨_, [], rfl, by omega⟩⟩
      · simp only [dig, List.foldl, e]; omega
      · intro b hb
        have : b = UInt8.ofNat (48 + n) := by simpa using hb
        subst this
        unfold IsDig
        omega
    · obtain ⟨h1, h2, h3⟩ := ih (n / 10) (by omega)
      have e := ofNat_toNat (n := 48 + n % 10) (by omega)
      rw [decN_big n h]
      refine ⟨?_, ?_, fun _ => ?_⟩
      · rw [dig_snoc, h1, e]; omega
      · intro b hb
        rcases List.mem_append.1 hb with hb | hb
        · exact h2 b hb
        · have : b = UInt8.ofNat (48 + n % 10) := by simpa using hb
          subst this
          unfold IsDig
          omega
      · obtain ⟨b, r, hr, hb⟩ := h3 (by omega)
        exact ⟨b, r ++ [_], by rw [hr]; rfl, hb⟩
theorem dig_le (l : List UInt8) (i : Nat) : dig (l.take i) ≤ dig l := by
  have : ∀ m, i + m = l.length → dig (l.take i) ≤ dig l := by
    intro m
    induction m generalizing i with
    | zero => intro h; rw [List.take_of_length_le (by omega)]; exact Nat.le_refl _
    | succ m ih =>
      intro h
      have h1 := ih (i + 1) (by omega)
      have hi : i < l.length := by omega
      rw [List.take_add_one, List.getElem?_eq_getElem hi] at h1
      have h2 := dig_snoc (l.take i) l[i]
      simp only [Option.toList_some] at h1
      omega
  by_cases h : i ≤ l.length
  · exact this (l.length - i) (by omega)
  · rw [List.take_of_length_le (by omega)]; exact Nat.le_refl _
theorem dig_next (l : List UInt8) (i : Nat) (h : i < l.length) : dig (l.take (i + 1)) = 10 * dig (l.take i) + (l[i].toNat - 48) := by
  rw [List.take_add_one, List.getElem?_eq_getElem h]
  exact dig_snoc _ _

mutual
/-- The value that is read in the JSON of a value. -/
def rd : P → P
  | .mk k n t _ ks =>
    if k = 1 then .mk 1 (if n = 0 then 0 else 1) ⟨#[]⟩ 0 []
    else if k = 2 ∨ k = 3 then .mk (if 0 ≤ ival k n then 3 else 2) n ⟨#[]⟩ 0 []
    else if k = 6 then .mk 6 0 t 0 []
    else if k = 7 then .mk 6 0 ⟨(b64 (tx t)).toArray⟩ 0 []
    else if k = 8 then .mk 8 0 ⟨#[]⟩ 0 (rdAll ks)
    else if k = 9 then .mk 9 0 ⟨#[]⟩ 0 (rdAll ks)
    else .mk 0 0 ⟨#[]⟩ 0 []
def rdAll : List P → List P
  | [] => []
  | p :: r => rd p :: rdAll r
end
theorem rdAll_eq (l : List P) : rdAll l = l.map rd := by
  induction l with
  | nil => rfl
  | cons p r ih => rw [rdAll, ih]; rfl
theorem rd_eq (p : P) : rd p = if p.kind = 1 then .mk 1 (if p.num = 0 then 0 else 1) ⟨#[]⟩ 0 []
    else if p.kind = 2 ∨ p.kind = 3 then .mk (if 0 ≤ ival p.kind p.num then 3 else 2) p.num ⟨#[]⟩ 0 []
    else if p.kind = 6 then .mk 6 0 p.text 0 []
    else if p.kind = 7 then .mk 6 0 ⟨(b64 (tx p.text)).toArray⟩ 0 []
    else if p.kind = 8 then .mk 8 0 ⟨#[]⟩ 0 (p.kids.map rd)
    else if p.kind = 9 then .mk 9 0 ⟨#[]⟩ 0 (p.kids.map rd)
    else .mk 0 0 ⟨#[]⟩ 0 [] := by
  obtain ⟨k, n, t, e, ks⟩ := p
  rw [rd, rdAll_eq]
  rfl
theorem text_nil {t : ByteArray} (h : t.size = 0) : t = ⟨#[]⟩ := by
  obtain ⟨⟨l⟩⟩ := t
  have : l.length = 0 := h
  rw [List.eq_nil_of_length_eq_zero this]
theorem P.eta (p : P) : p = .mk p.kind p.num p.text p.ext p.kids := by cases p; rfl
theorem Same.leaf (k k' n : Int) (t : ByteArray) (h : nk k n = nk k' n) : Same (.mk k n t 0 []) (.mk k' n t 0 []) :=
  .mk _ _ h rfl rfl rfl rfl fun i h => absurd h (by simp [P.kids])
theorem same_rd {V : List UInt8 → Prop} (p : P) : ∀ (n : Nat), Fit n p → JOk V p → NumOk p → Same (rd p) (asj p) := by
  induction p using P.ind with | h p ih => ?_
  intro n hf hj hno
  obtain ⟨h0, h1, hnk⟩ := hno.get
  cases n with
  | zero => exact hf.elim
  | succ n =>
    have hp := hf.1
    have hfk := hf.2
    cases hj with | mk _ h4 h5 h10 h6 hk h9 => ?_
    have k0 := hp.k0
    have k1 := hp.k1
    have hext : p.ext = 0 := by rcases hp.ext with h | h; exact absurd h h10; exact h
    have leaf : p.kind ≠ 8 → p.kind ≠ 9 → p.kids = [] := fun h8 h9 => by
      rcases hp.kids with h | h | h
      · exact absurd h h8
      · exact absurd h h9
      · exact List.eq_nil_of_length_eq_zero h
    have txt : p.kind ≠ 6 → p.kind ≠ 7 → p.text = ⟨#[]⟩ := fun h6 h7 => by
      rcases hp.text with h | h | h | h
      · exact absurd h h6
      · exact absurd h h7
      · exact absurd h h10
      · exact text_nil h
    have num : ¬ (1 ≤ p.kind ∧ p.kind ≤ 5) → p.num = 0 := fun h => by
      rcases hp.num with h' | h'
      · exact absurd h' h
      · exact h'
    by_cases c89 : p.kind = 8 ∨ p.kind = 9
    · rw [asj_89 p c89, rd_eq]
      have hkk := hk c89
      have goal : Same (.mk p.kind 0 ⟨#[]⟩ 0 (p.kids.map rd)) (.mk p.kind 0 ⟨#[]⟩ 0 (p.kids.map asj)) := by
        refine .mk _ _ rfl rfl rfl rfl (by simp [P.kids]) fun i h h' => ?_
        have hi : i < p.kids.length := by simpa [P.kids] using h
        have := ih i hi n (hfk i hi) (hkk i hi) (hnk i hi)
        simpa [P.kids] using this
      rcases c89 with e | e
      · simpa [e] using goal
      · simpa [e] using goal
    · by_cases c7 : p.kind = 7
      · rw [asj_7 p c7, rd_eq]
        simp [c7]
        exact Same.leaf 6 6 0 _ rfl
      · have hkids := leaf (by omega) (by omega)
        rw [asj_o p c7 (by omega) (by omega), rd_eq]
        by_cases c6 : p.kind = 6
        · have hn := num (by omega)
          rw [P.eta p, c6, hext, hkids, hn]
          simp [P.kind, P.text]
          exact Same.leaf 6 6 0 _ rfl
        · have ht := txt c6 c7
          by_cases c1 : p.kind = 1
          · have hb := hp.bool c1
            rw [if_pos c1]
            have e : (if p.num = 0 then (0 : Int) else 1) = p.num := by split <;> omega
            rw [e]
            obtain ⟨m, hm⟩ : ∃ m, p.num = m := ⟨_, rfl⟩
            have e : p = .mk 1 m ⟨#[]⟩ 0 [] := by rw [P.eta p, c1, hext, hkids, ht, hm]
            rw [hm, e]
            exact Same.leaf 1 1 _ _ rfl
          · by_cases c23 : p.kind = 2 ∨ p.kind = 3
            · rw [if_neg c1, if_pos c23]
              obtain ⟨kk, m, e1, e2⟩ : ∃ kk m, p.kind = kk ∧ p.num = m := ⟨_, _, rfl, rfl⟩
              have e : p = .mk kk m ⟨#[]⟩ 0 [] := by rw [P.eta p, e1, hext, hkids, ht, e2]
              rw [e1] at c23
              rw [e2] at h0 h1
              rw [e1, e2, e]
              refine Same.leaf _ _ _ _ ?_
              unfold nk ival
              split <;> split <;> split <;> omega
            · have c0 : p.kind = 0 := by omega
              have hn := num (by omega)
              rw [P.eta p, c0, hext, hkids, ht, hn]
              simp [P.kind]
              exact Same.leaf 0 0 0 _ rfl
end YtbgckolcimlofaaGreatDoorPj
namespace YtbgckolcimlofaaGreatDoorPj
open Go.Lib

/-- A byte with which a value may begin. -/
def Starts (b : UInt8) : Prop := b.toNat ≠ 32 ∧ b.toNat ≠ 10 ∧ b.toNat ≠ 13 ∧ b.toNat ≠ 9 ∧ b.toNat ≠ 93 ∧ b.toNat ≠ 125 ∧ b.toNat ≠ 44
theorem decN_start (n : Nat) : ∃ b r, decN n = b :: r ∧ IsDig b := by
  have h := (decN_facts n).2.1
  cases hd : decN n with
  | nil =>
    by_cases h0 : 0 < n
    · obtain ⟨b, r, e, _⟩ := (decN_facts n).2.2 h0
      rw [hd] at e; cases e
    · obtain rfl : n = 0 := by omega
      rw [decN_small 0 (by omega)] at hd; cases hd
  | cons b r => exact ⟨b, r, rfl, h b (by rw [hd]; simp)⟩
/-- The first byte of a whole number: a digit, or '-'. -/
theorem decI_start (i : Int) : ∃ b r, decI i = b :: r ∧ (IsDig b ∨ b.toNat = 45) := by
  unfold decI
  split
  · exact ⟨45, _, rfl, Or.inr rfl⟩
  · obtain ⟨b, r, e, h⟩ := decN_start i.toNat
    exact ⟨b, r, e, Or.inl h⟩
theorem js_start (p : P) : ∃ b r, js p = b :: r ∧ Starts b := by
  rw [js_eq]
  unfold Starts
  by_cases h0 : p.kind = 0
  · rw [if_pos h0]; exact ⟨_, _, rfl, by decide⟩
  rw [if_neg h0]
  by_cases h1 : p.kind = 1
  · rw [if_pos h1]
    by_cases hn : p.num = 0
    · rw [if_pos hn]; exact ⟨_, _, rfl, by decide⟩
    · rw [if_neg hn]; exact ⟨_, _, rfl, by decide⟩
  rw [if_neg h1]
  by_cases h2 : p.kind = 2 ∨ p.kind = 3
  · rw [if_pos h2]
    obtain ⟨b, r, e, h⟩ := decI_start (ival p.kind p.num)
    rcases h with ⟨h, h'⟩ | h
    · exact ⟨b, r, e, by omega⟩
    · exact ⟨b, r, e, by omega⟩
  rw [if_neg h2]
  by_cases h6 : p.kind = 6
  · rw [if_pos h6]; exact ⟨34, _, rfl, by decide⟩
  rw [if_neg h6]
  by_cases h7 : p.kind = 7
  · rw [if_pos h7]; exact ⟨34, _, rfl, by decide⟩
  rw [if_neg h7]
  by_cases h8 : p.kind = 8
  · rw [if_pos h8]; exact ⟨91, _, rfl, by decide⟩
  rw [if_neg h8]
  exact ⟨123, _, rfl, by decide⟩
theorem jsArr_cons (p : P) (r : List P) : jsArr (p :: r) = js p ++ jsArrT r := by rw [jsArr]
theorem jsArrT_cons (p : P) (r : List P) : jsArrT (p :: r) = 44 :: (js p ++ jsArrT r) := by rw [jsArrT]
theorem jsArrT_nil : jsArrT [] = [] := by rw [jsArrT]
theorem jsArr_nil : jsArr [] = [] := by rw [jsArr]
theorem jsMap_cons (k v : P) (r : List P) : jsMap (k :: v :: r) = quote (tx k.text) ++ 58 :: (js v ++ jsMapT r) := by rw [jsMap]
theorem jsMapT_cons (k v : P) (r : List P) : jsMapT (k :: v :: r) = 44 :: (quote (tx k.text) ++ 58 :: (js v ++ jsMapT r)) := by rw [jsMapT]
theorem jsMapT_nil : jsMapT [] = [] := by rw [jsMapT]
theorem jsMap_nil : jsMap [] = [] := by rw [jsMap]
end YtbgckolcimlofaaGreatDoorPj
namespace Go.Proofs.YtbgckolcimlofaaGreatDoor
open Go.RowKit YtbgckolcimlofaaGreatDoorPj

/-- A text that is being read: its place. -/
structure Jt (w : World) (j : Nat) (s : ByteArray) (at_ : Nat) : Prop where
  c0 : w.cell? ⟨j, 0, none⟩ = some (.string s)
  c1 : w.cell? ⟨j, 1, none⟩ = some (.int .i64 (at_ : Nat))
  c2 : w.cell? ⟨j, 2, none⟩ = some (.bool false)
  f1 : w.frozen? ⟨j, 1, none⟩ = false
  le : at_ ≤ s.size
  big : s.size ≤ 1099511627776
theorem Jt.lt {w : World} {j : Nat} {s : ByteArray} {at_ : Nat} (h : Jt w j s at_) : j < w.heap.size := World.block_lt_of_cell? w _ h.c0
theorem Jt.only {w w' : World} {j : Nat} {s : ByteArray} {at_ : Nat} {S : Nat → Prop} (h : Jt w j s at_) (ho : Only S w w') (hS : ¬ S j) : Jt w' j s at_ :=
  ⟨(ho.cell h.lt hS).trans h.c0, (ho.cell h.lt hS).trans h.c1, (ho.cell h.lt hS).trans h.c2, (ho.frozen h.lt hS).trans h.f1, h.le, h.big⟩
theorem Jt.set {w : World} {j : Nat} {s : ByteArray} {at_ : Nat} (h : Jt w j s at_) (n : Nat) (hn : n ≤ s.size) : Jt (w.setCell ⟨j, 1, none⟩ (.int .i64 (n : Nat))) j s n := by
  obtain ⟨c0, c1, c2, f1, le, big⟩ := h
  exact ⟨by go_simp, by go_simp, by go_simp, by go_simp, hn, big⟩
/-- What lies ahead. -/
def Ahead (s : ByteArray) (at_ : Nat) (r : List UInt8) : Prop := (tx s).drop at_ = r ∧ at_ ≤ s.size
theorem Ahead.cons {s : ByteArray} {at_ : Nat} {b : UInt8} {r : List UInt8} (h : Ahead s at_ (b :: r)) : ∃ hl : at_ < s.size, s[at_] = b ∧ Ahead s (at_ + 1) r := by
  obtain ⟨h, hle⟩ := h
  have hl : at_ < s.size := by
    rcases Nat.lt_or_ge at_ s.size with h' | h'
    · exact h'
    · rw [List.drop_eq_nil_of_le (by rw [tx_length]; exact h')] at h
      cases h
  refine ⟨hl, ?_, ?_, hl⟩
  · have := getD_tx s at_ hl
    rw [← this, List.getD_eq_getElem?_getD, ← List.head?_drop, h]
    rfl
  · have e : (tx s).drop (at_ + 1) = ((tx s).drop at_).drop 1 := by rw [List.drop_drop]
    rw [e, h]
    rfl
theorem Ahead.nil {s : ByteArray} {at_ : Nat} (h : Ahead s at_ []) : at_ = s.size := by
  have := List.drop_eq_nil_iff.1 h.1
  rw [tx_length] at this
  have := h.2
  omega
theorem Ahead.app {s : ByteArray} : ∀ (l : List UInt8) {at_ : Nat} {r : List UInt8}, Ahead s at_ (l ++ r) → Ahead s (at_ + l.length) r
  | [], _, _, h => h
  | b :: l, at_, r, h => by
    obtain ⟨_, _, h1⟩ := Ahead.cons h
    have := Ahead.app l h1
    rw [List.length_cons]
    have e : at_ + (l.length + 1) = at_ + 1 + l.length := by omega
    rw [e]
    exact this
def NotBlank (b : UInt8) : Prop := b.toNat ≠ 32 ∧ b.toNat ≠ 10 ∧ b.toNat ≠ 13 ∧ b.toNat ≠ 9
def VoidPost (w : World) (e : Ending) (w' : World) : Prop := e = .returned (.tuple #[]) ∧ Only (fun _ => False) w w'
set_option maxRecDepth 100000 in
set_option maxHeartbeats 1000000 in
theorem blank_b (w : World) (j : Nat) (s : ByteArray) (at_ : Nat) (h : Jt w j s at_) (b : UInt8) (r : List UInt8) (ha : Ahead s at_ (b :: r)) (hb : NotBlank b) :
    Calls Tryz.prog 24 #[.pointer (some ⟨j, 0, none⟩)] w (VoidPost w) := by
  obtain ⟨hl, hsb, -⟩ := ha.cons
  obtain ⟨c0, c1, c2, f1, le, big⟩ := h
  have b1 : (((s[at_]'hl).toNat : Int) == 32) = false := by have := hb.1; rw [hsb]; simp; omega
  have b2 : (((s[at_]'hl).toNat : Int) == 10) = false := by have := hb.2.1; rw [hsb]; simp; omega
  have b3 : (((s[at_]'hl).toNat : Int) == 13) = false := by have := hb.2.2.1; rw [hsb]; simp; omega
  have b4 : (((s[at_]'hl).toNat : Int) == 9) = false := by have := hb.2.2.2; rw [hsb]; simp; omega
  have d1 : decide ((at_ : Int) < s.size) = true := by simp; omega
  clear hsb hb ha
  have d2 : (at_ : Int) < s.size := by omega
  have d3 : (0 : Int) ≤ at_ := by omega
  go_enter Tryz.func24, Tryz.ntmps24
  go_wp2
  go_loopg [] 1 (fun m wr => wr = w)
  case atStart => rfl
  case round =>
    obtain rfl := hrel
    go_wp2
    go_quiet (fail)
    go_wp2
    go_end0
    exact ⟨rfl, by simp⟩
end Go.Proofs.YtbgckolcimlofaaGreatDoor
namespace Go.Proofs.YtbgckolcimlofaaGreatDoor
open Go.RowKit YtbgckolcimlofaaGreatDoorPj

set_option maxRecDepth 100000 in
set_option maxHeartbeats 1000000 in
theorem blank_e (w : World) (j : Nat) (s : ByteArray) (h : Jt w j s s.size) :
    Calls Tryz.prog 24 #[.pointer (some ⟨j, 0, none⟩)] w (VoidPost w) := by
  obtain ⟨c0, c1, c2, f1, le, big⟩ := h
  have d1 : decide ((s.size : Int) < s.size) = false := by simp
  go_enter Tryz.func24, Tryz.ntmps24
  go_wp2
  go_loopg [] 1 (fun m wr => wr = w)
  case atStart => rfl
  case round =>
    obtain rfl := hrel
    go_wp2
    go_quiet (fail)
    go_wp2
    go_end0
    exact ⟨rfl, by simp⟩
/-- No blank comes first. -/
def Solid (r : List UInt8) : Prop := ∀ b r', r = b :: r' → NotBlank b
theorem blank (w : World) (j : Nat) (s : ByteArray) (at_ : Nat) (h : Jt w j s at_) (r : List UInt8) (ha : Ahead s at_ r) (hr : Solid r) :
    Calls Tryz.prog 24 #[.pointer (some ⟨j, 0, none⟩)] w (VoidPost w) := by
  cases r with
  | nil =>
    obtain rfl := ha.nil
    exact blank_e w j s h
  | cons b r => exact blank_b w j s at_ h b r ha (hr b r rfl)
/-- The place moved on. -/
def Moved (w : World) (j : Nat) (s : ByteArray) (n : Nat) (w' : World) : Prop := Only (fun k => k = j) w w' ∧ Jt w' j s n
theorem Moved.set {w w1 : World} {j : Nat} {s : ByteArray} {at_ : Nat} (h : Jt w j s at_) (ho : Only (fun _ => False) w w1) (n : Nat) (hn : n ≤ s.size) {z : Int} (hz : z = (n : Int)) : Moved w j s n (w1.setCell ⟨j, 1, none⟩ (.int .i64 z)) := by
  subst hz
  exact ⟨Only.setCell (S := fun k => k = j) (p := ⟨j, 1, none⟩) (ho.mono fun _ _ h => h.elim) (fun _ => rfl) _, (h.only ho (fun h => h)).set n hn⟩
def EatPost (y : Bool) (w : World) (j : Nat) (s : ByteArray) (n : Nat) (e : Ending) (w' : World) : Prop := e = .returned (.bool y) ∧ Moved w j s n w'
set_option maxRecDepth 100000 in
set_option maxHeartbeats 1000000 in
theorem eat_yes (w : World) (j : Nat) (s : ByteArray) (at_ : Nat) (h : Jt w j s at_) (b : UInt8) (r : List UInt8) (ha : Ahead s at_ (b :: r)) (hb : NotBlank b) :
    Calls Tryz.prog 44 #[.pointer (some ⟨j, 0, none⟩), .int .u8 (b.toNat : Int)] w (EatPost true w j s (at_ + 1)) := by
  obtain ⟨hl, hsb, -⟩ := ha.cons
  have HB := hid (blank_b w j s at_ h b r ha hb)
  have HJ := hid h
  have hbig := h.big
  have b1 : (((s[at_]'hl).toNat : Int) == (b.toNat : Int)) = true := by rw [hsb]; simp
  have d1 : decide ((at_ : Int) < s.size) = true := by simp; omega
  have d2 : (at_ : Int) < s.size := by omega
  have d3 : (0 : Int) ≤ at_ := by omega
  clear hsb hb ha h
  go_enter Tryz.func44, Tryz.ntmps44
  go_wp2_with (go_at_call 24; refine HB.out.mono ?_; rintro e w1 ⟨rfl, h1⟩; have H1 := hid h1; obtain ⟨c0, c1, c2, f1, -, -⟩ := HJ.out.only h1 (fun h => h); clear h1)
  go_quiet (fail)
  go_wp2
  go_ret
  exact ⟨rfl, Moved.set HJ.out (H1.out.drewN _) _ (by omega) (by omega)⟩
set_option maxRecDepth 100000 in
set_option maxHeartbeats 1000000 in
theorem eat_no_b (w : World) (j : Nat) (s : ByteArray) (at_ : Nat) (h : Jt w j s at_) (b c : UInt8) (r : List UInt8) (ha : Ahead s at_ (b :: r)) (hb : NotBlank b) (hc : b.toNat ≠ c.toNat) :
    Calls Tryz.prog 44 #[.pointer (some ⟨j, 0, none⟩), .int .u8 (c.toNat : Int)] w (EatPost false w j s at_) := by
  obtain ⟨hl, hsb, -⟩ := ha.cons
  have HB := hid (blank_b w j s at_ h b r ha hb)
  have HJ := hid h
  have hbig := h.big
  have b1 : (((s[at_]'hl).toNat : Int) == (c.toNat : Int)) = false := by rw [hsb]; simp; omega
  have d1 : decide ((at_ : Int) < s.size) = true := by simp; omega
  have d2 : (at_ : Int) < s.size := by omega
  have d3 : (0 : Int) ≤ at_ := by omega
  clear hsb hb ha h
  go_enter Tryz.func44, Tryz.ntmps44
  go_wp2_with (go_at_call 24; refine HB.out.mono ?_; rintro e w1 ⟨rfl, h1⟩; have H1 := hid h1; obtain ⟨c0, c1, c2, f1, -, -⟩ := HJ.out.only h1 (fun h => h); clear h1)
  go_quiet (fail)
  go_wp2
  go_ret
  exact ⟨rfl, (H1.out.drewN _).mono fun _ _ h => h.elim, HJ.out.only (H1.out.drewN _) (fun h => h)⟩
end Go.Proofs.YtbgckolcimlofaaGreatDoor
