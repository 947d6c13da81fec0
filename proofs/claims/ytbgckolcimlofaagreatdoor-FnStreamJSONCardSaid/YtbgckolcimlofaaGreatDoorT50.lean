/-
  The parser: list, a map; where the items are read.
  ReadJSON reads back what the JSON of a value tells; where the tables of utf8 are laid.
  WriteToJSON writes the JSON of the one value that lies ahead; where io.EOF is laid.
  copied: a new row with the same bytes; within the bound.
-/
import Derived.Test.YtbgckolcimlofaaGreatDoorProg
import Derived.Test.YtbgckolcimlofaaGreatDoorT49
import Derived.Test.YtbgckolcimlofaaGreatDoorT30
import Derived.Test.YtbgckolcimlofaaGreatDoorT38
import Derived.Test.YtbgckolcimlofaaGreatDoorT41
import Derived.LaidEql
import Derived.Test.YtbgckolcimlofaaGreatDoorT43
import Derived.Test.YtbgckolcimlofaaGreatDoorT04
import Derived.Test.YtbgckolcimlofaaGreatDoorT03
set_option linter.unusedVariables false
set_option linter.unusedSimpArgs false
namespace Go.Proofs.YtbgckolcimlofaaGreatDoor
open Go.RowKit YtbgckolcimlofaaGreatDoorPj

theorem word_is (x : ByteArray) (j : Nat) (s : ByteArray) (at_ : Nat) (r : List UInt8) (ha : Ahead s at_ (tx x ++ r)) : WordAt x true j s at_ (at_ + x.size) := fun w h => word_yes w j s x at_ h r ha
theorem word_isnt (x : ByteArray) (c : UInt8) (l : List UInt8) (hx : tx x = c :: l) (j : Nat) (s : ByteArray) (at_ : Nat) (b : UInt8) (r : List UInt8) (ha : Ahead s at_ (b :: r)) (hb : b ≠ c) : WordAt x false j s at_ at_ := fun w h => word_no w j s x at_ h (b :: r) ha ⟨c, l, hx, fun b' r' e => by injection e with e _; exact e ▸ hb⟩
theorem ival_back {k n : Int} (h0 : 0 ≤ n) (h1 : n < 18446744073709551616) : (if 0 ≤ ival k n then ival k n else ival k n + 18446744073709551616) = n := by
  unfold ival
  by_cases c : k = 2 ∧ 9223372036854775808 ≤ n
  · rw [if_pos c]
    split <;> omega
  · rw [if_neg c, if_pos h0]
theorem toArr_size (l : List UInt8) : l.toArray.size = l.length := by simp
theorem valAt (p : P) : ∀ (n lv : Nat), Fit n p → n ≤ lv → lv ≤ 1000 → JOk VD p → NumOk p → ValAt lv p := by
  induction p using P.ind with | h p ih => ?_
  intro n lv hf hnl hlv hj hno w j s at_ post h ha hp hT
  cases n with
  | zero => exact hf.elim
  | succ n =>
    have hpn := hf.1
    have hfk := hf.2
    obtain ⟨hn0, hn1, hnk⟩ := hno.get
    obtain ⟨lv, rfl⟩ : ∃ m, lv = m + 1 := ⟨lv - 1, by omega⟩
    obtain ⟨b, r, hjs, hst⟩ := js_start p
    have hnb := starts_nb hst
    have hcons : Ahead s at_ (b :: (r ++ post)) := by rw [hjs] at ha; exact ha
    have htabs : ∀ m w1, Moved (w.alloc Z5) j s m w1 → Lib.Utf8Tabs 1 2 w1 := fun m w1 hm => tabs_j (utf8_only hT (Only.alloc (Only.refl _ _) Z5)) (h.ne_new (w1 := w) Z5) hm.1
    cases hj with | mk _ h4 h5 h10 h6 hk h9 => ?_
    have k0 := hpn.k0
    have k1 := hpn.k1
    have nonull : b ≠ 110 → WordAt ⟨#[110, 117, 108, 108]⟩ false j s at_ at_ := fun e => word_isnt _ 110 _ rfl j s at_ b _ hcons e
    have notrue : b ≠ 116 → WordAt ⟨#[116, 114, 117, 101]⟩ false j s at_ at_ := fun e => word_isnt _ 116 _ rfl j s at_ b _ hcons e
    have nofalse : b ≠ 102 → WordAt ⟨#[102, 97, 108, 115, 101]⟩ false j s at_ at_ := fun e => word_isnt _ 102 _ rfl j s at_ b _ hcons e
    have first : ∀ c l, js p = c :: l → b = c := fun c l e => by rw [hjs] at e; injection e
    have ne3 : ∀ c : UInt8, b = c → c.toNat ≠ 110 → c.toNat ≠ 116 → c.toNat ≠ 102 → b ≠ 110 ∧ b ≠ 116 ∧ b ≠ 102 := fun c e h1 h2 h3 => by subst e; exact ⟨fun e => h1 (by rw [e]; rfl), fun e => h2 (by rw [e]; rfl), fun e => h3 (by rw [e]; rfl)⟩
    have hjk := js_eq p
    have hrd := rd_eq p
    have hcase : p.kind = 0 ∨ p.kind = 1 ∨ (p.kind = 2 ∨ p.kind = 3) ∨ p.kind = 6 ∨ p.kind = 7 ∨ p.kind = 8 ∨ p.kind = 9 := by omega
    rcases hcase with hc | hc | hc | hc | hc | hc | hc
    · rw [if_pos hc] at hjk
      rw [if_neg (by omega), if_neg (by omega), if_neg (by omega), if_neg (by omega), if_neg (by omega), if_neg (by omega)] at hrd
      rw [hrd, hjk]
      rw [hjk] at ha
      exact value_null w j s at_ _ h (by omega) hlv b _ hcons hnb (at_ + 4) (word_is ⟨#[110, 117, 108, 108]⟩ j s at_ post ha)
    · rw [if_neg (by omega), if_pos hc] at hjk
      rw [if_pos hc] at hrd
      by_cases hz : p.num = 0
      · rw [if_pos hz] at hjk hrd
        have hb := first _ _ hjk
        rw [hrd, hjk]
        rw [hjk] at ha
        exact value_false w j s at_ _ h (by omega) hlv b _ hcons hnb (at_ + 5) (nonull (by rw [hb]; decide)) (notrue (by rw [hb]; decide)) (word_is ⟨#[102, 97, 108, 115, 101]⟩ j s at_ post ha)
      · rw [if_neg hz] at hjk hrd
        have hb := first _ _ hjk
        rw [hrd, hjk]
        rw [hjk] at ha
        exact value_true w j s at_ _ h (by omega) hlv b _ hcons hnb (at_ + 4) (nonull (by rw [hb]; decide)) (word_is ⟨#[116, 114, 117, 101]⟩ j s at_ post ha)
    · rw [if_neg (by omega), if_neg (by omega), if_pos hc] at hjk
      rw [if_neg (by omega), if_pos hc] at hrd
      have hbd := ival_bd (k := p.kind) hn0 hn1
      obtain ⟨c, l, hcl, hcd⟩ := decI_start (ival p.kind p.num)
      have hb := first c l (by rw [hjk]; exact hcl)
      obtain ⟨e1, e2, e3⟩ := ne3 c hb (by unfold IsDig at hcd; omega) (by unfold IsDig at hcd; omega) (by unfold IsDig at hcd; omega)
      rw [hrd, hjk]
      rw [hjk] at ha
      have hcn : b.toNat = c.toNat := by rw [hb]
      refine value_num w j s at_ _ h (by omega) hlv b _ hcons hnb (nonull e1) (notrue e2) (nofalse e3) _ _ (by unfold IsDig at hcd; omega) (by unfold IsDig at hcd; omega) (by unfold IsDig at hcd; omega) fun w1 hm => ?_
      have := number w1 j s at_ hm.2 (ival p.kind p.num) hbd.1 hbd.2 post ha hp
      rw [ival_back hn0 hn1] at this
      exact this
    · rw [if_neg (by omega), if_neg (by omega), if_neg (by omega), if_pos hc] at hjk
      rw [if_neg (by omega), if_neg (by omega), if_pos hc] at hrd
      have hb := first 34 _ (by rw [hjk]; rfl)
      obtain ⟨e1, e2, e3⟩ := ne3 34 hb (by decide) (by decide) (by decide)
      have hlen : at_ + (quote (tx p.text)).length = at_ + (esc (tx p.text)).length + 2 := by simp [quote]; omega
      rw [hrd, hjk, hlen]
      rw [hjk] at ha
      have ha' : Ahead s at_ (34 :: (esc (tx p.text) ++ 34 :: post)) := by simpa [quote] using ha
      have := value_text w j s at_ _ h (by omega) hlv b _ hcons hnb (nonull e1) (notrue e2) (nofalse e3) (tx p.text) (at_ + (esc (tx p.text)).length + 2) (by rw [hb]; rfl) (by rw [tx_length]; have := hpn.short; omega) fun w1 hm => readText w1 j s at_ hm.2 (esc (tx p.text)) (tx p.text) post (un_esc _ _ rfl) ha' (h6 hc) (htabs _ _ hm)
      rw [tx_back] at this
      exact this
    · rw [if_neg (by omega), if_neg (by omega), if_neg (by omega), if_neg (by omega), if_pos hc] at hjk
      rw [if_neg (by omega), if_neg (by omega), if_neg (by omega), if_pos hc] at hrd
      have hb := first 34 _ hjk
      obtain ⟨e1, e2, e3⟩ := ne3 34 hb (by decide) (by decide) (by decide)
      have hlen : at_ + (34 :: (b64 (tx p.text) ++ [34])).length = at_ + (b64 (tx p.text)).length + 2 := by simp; omega
      rw [hrd, hjk, hlen]
      rw [hjk] at ha
      have ha' : Ahead s at_ (34 :: (b64 (tx p.text) ++ 34 :: post)) := by simpa using ha
      exact value_text w j s at_ _ h (by omega) hlv b _ hcons hnb (nonull e1) (notrue e2) (nofalse e3) (b64 (tx p.text)) (at_ + (b64 (tx p.text)).length + 2) (by rw [hb]; rfl) (by have := b64_len4 (tx p.text); rw [tx_length] at this; have := hpn.short; omega) fun w1 hm => readText w1 j s at_ hm.2 (b64 (tx p.text)) (b64 (tx p.text)) post (un_b64 _) ha' (b64_valid _) (htabs _ _ hm)
    · rw [if_neg (by omega), if_neg (by omega), if_neg (by omega), if_neg (by omega), if_neg (by omega), if_pos hc] at hjk
      rw [if_neg (by omega), if_neg (by omega), if_neg (by omega), if_neg (by omega), if_pos hc] at hrd
      have hb := first 91 _ hjk
      obtain ⟨e1, e2, e3⟩ := ne3 91 hb (by decide) (by decide) (by decide)
      have hlen : at_ + (91 :: (jsArr p.kids ++ [93])).length = at_ + (jsArr p.kids).length + 2 := by simp; omega
      rw [hrd, hjk, hlen]
      rw [hjk] at ha
      have ha' : Ahead s at_ (91 :: (jsArr p.kids ++ 93 :: post)) := by simpa using ha
      refine value_arr w j s at_ _ h (by omega) hlv b _ hcons hnb (nonull e1) (notrue e2) (nofalse e3) _ _ (by rw [hb]; rfl) fun w1 hm => list_arr lv p.kids (fun q hq => ?_) hpn.few (by omega) w1 j s at_ hm.2 post ha' (htabs _ _ hm)
      obtain ⟨i, hi, rfl⟩ := List.mem_iff_getElem.1 hq
      exact ih i hi n lv (hfk i hi) (by omega) (by omega) (hk (Or.inl hc) i hi) (hnk i hi)
    · rw [if_neg (by omega), if_neg (by omega), if_neg (by omega), if_neg (by omega), if_neg (by omega), if_neg (by omega)] at hjk
      rw [if_neg (by omega), if_neg (by omega), if_neg (by omega), if_neg (by omega), if_neg (by omega), if_pos hc] at hrd
      have hb := first 123 _ hjk
      obtain ⟨e1, e2, e3⟩ := ne3 123 hb (by decide) (by decide) (by decide)
      have hlen : at_ + (123 :: (jsMap p.kids ++ [125])).length = at_ + (jsMap p.kids).length + 2 := by simp; omega
      rw [hrd, hjk, hlen]
      rw [hjk] at ha
      have ha' : Ahead s at_ (123 :: (jsMap p.kids ++ 125 :: post)) := by simpa using ha
      refine value_map w j s at_ _ h (by omega) hlv b _ hcons hnb (nonull e1) (notrue e2) (nofalse e3) _ _ (by rw [hb]; rfl) fun w1 hm => list_map lv p.kids (fun q hq => ?_) (fun i hi h2 => ?_) (hpn.map hc) hpn.few (by omega) w1 j s at_ hm.2 post ha' (htabs _ _ hm)
      · obtain ⟨i, hi, rfl⟩ := List.mem_iff_getElem.1 hq
        exact ih i hi n lv (hfk i hi) (by omega) (by omega) (hk (Or.inr hc) i hi) (hnk i hi)
      · have hk6 := h9 hc i hi h2
        refine ⟨hk6, ?_⟩
        have := hk (Or.inr hc) i hi
        cases this with | mk _ _ _ _ h6' _ _ => exact h6' hk6
end Go.Proofs.YtbgckolcimlofaaGreatDoor
namespace Go.Proofs.YtbgckolcimlofaaGreatDoor
open Go.RowKit YtbgckolcimlofaaGreatDoorPj

def J3 (s : ByteArray) : Obj := .cells #[.string s, .int .i64 0, .bool false] 62
set_option maxRecDepth 100000 in
set_option maxHeartbeats 16000000 in
theorem readJSON (p : P) (n : Nat) (hf : Fit n p) (hn : n ≤ 50) (hj : JOk VD p) (hno : NumOk p) (w : World) (s : ByteArray) (hs : tx s = js p) (hbig : s.size ≤ 1099511627776) (hT : Lib.Utf8Tabs 1 2 w) :
    Calls Tryz.prog 11 #[.string s] w (fun e w' => ∃ x0 x1 x2 x3 x4, e = .returned (.tuple #[.agg #[x0, x1, x2, x3, x4], .bool true]) ∧ IsPk w' (fun k => w.heap.size ≤ k) (rd p) [x0, x1, x2, x3, x4] ∧ Only (fun _ => False) w w') := by
  have HV := hid (valAt p n 50 hf hn (by decide) hj hno)
  have hsz : s.size = (js p).length := by rw [← tx_length, hs]
  have HA : Hid (Ahead s 0 (js p ++ [])) := hid ⟨by rw [List.drop_zero, hs, List.append_nil], Nat.zero_le _⟩
  have HTT := hid hT
  have HSZ := hid hsz
  clear hf hj hno hT hs hsz
  have HJ : Hid (Jt ((w.alloc Z5).alloc (J3 s)) (w.heap.size + 1) s 0) := hid ⟨by unfold Z5 J3; go_simp, by unfold Z5 J3; go_simp, by unfold Z5 J3; go_simp, by unfold Z5 J3; go_simp, Nat.zero_le _, hbig⟩
  have HT2 := hid (utf8_only HTT.out (Only.alloc (Only.alloc (Only.refl (fun _ => False) w) Z5) (J3 s)))
  have HR5 : Hid (∀ w1, Only (fun k => k = w.heap.size + 1) ((w.alloc Z5).alloc (J3 s)) w1 → Five w1 w.heap.size (.int .i64 0) (.int .u64 0) (.string ⟨#[]⟩) (.int .i64 0) (.slice none 0 0)) := hid fun w1 ho =>
    ((Five.new w (.int .i64 0) (.int .u64 0) (.string ⟨#[]⟩) (.int .i64 0) (.slice none 0 0) 25).only (Only.alloc (Only.refl (fun _ => False) _) (J3 s)) (fun e => e)).only ho (fun e => by have e : w.heap.size = w.heap.size + 1 := e; omega)
  go_enter Tryz.func11, Tryz.ntmps11
  go_wp2_with (first
    | (go_at_call 23; refine (HV.out _ (w.heap.size + 1) s 0 [] HJ.out HA.out (fun b r e => nomatch e) HT2.out).mono ?_; intro e w1 hp; obtain ⟨k1, n1, e1, t1, A1, l1, cc1, rfl, HQ, HM⟩ := hp.get; clear hp)
    | (go_at_call 24; refine (blank_e _ (w.heap.size + 1) s ?_).mono ?_; (have h1 := HM.out.2; rw [Nat.zero_add, ← HSZ.out] at h1; exact h1.ne_new (w1 := w1) _); rintro e w2 ⟨rfl, h2⟩; have H2 := hid h2; clear h2))
  obtain ⟨w1x, rfl⟩ : ∃ x : World, x = w1 := ⟨_, rfl⟩
  have hN := (Five.new w1x (.int .i64 k1) (.int .u64 n1) (.string t1) (.int .i64 e1) (.slice A1 l1 cc1) 25).only H2.out (fun e => e)
  have hJ2 : Jt w2 (w.heap.size + 1) s s.size := by
    have h1 := HM.out.2
    rw [Nat.zero_add, ← HSZ.out] at h1
    exact (h1.ne_new (w1 := w1x) _).only H2.out (fun e => e)
  have hR2 := ((HR5.out w1x HM.out.1).only (Only.alloc (Only.refl (fun _ => False) w1x) (.cells #[.int .i64 k1, .int .u64 n1, .string t1, .int .i64 e1, .slice A1 l1 cc1] 25)) (fun e => e)).only H2.out (fun e => e)
  have hO2 : Only (fun _ => False) w w2 := by
    have h0 : Only (fun _ => False) w ((w.alloc Z5).alloc (J3 s)) := Only.alloc (Only.alloc (Only.refl _ _) _) _
    refine ((h0.trans' HM.out.1 fun i hi e => ?_).alloc _).trans H2.out
    have e : i = w.heap.size + 1 := e
    omega
  have hQ2 : IsPk w2 (fun k => w.heap.size + 2 ≤ k) (rd p) [.int .i64 k1, .int .u64 n1, .string t1, .int .i64 e1, .slice A1 l1 cc1] :=
    HQ.out.keep fun k hk hok => ⟨by have h3 : ((w.alloc Z5).alloc (J3 s)).heap.size ≤ k := hok; simp at h3; omega, ((H2.out.block k (by simp; omega) (fun h => h)).trans (Below.heap_alloc w1x _ k hk))⟩
  have HN := hid hN
  have HJ2 := hid hJ2
  have HR2 := hid hR2
  have HO2 := hid hO2
  have HQ2 := hid hQ2
  clear hN hJ2 hR2 hO2 hQ2
  obtain ⟨v0, v1, v2, v3, v4, q0, q1, q2, q3, q4⟩ := HN.out
  obtain ⟨g0, g1, g2, g3, g4, p0, p1, p2, p3, p4⟩ := HR2.out
  obtain ⟨c0, c1, c2, f1, le, -⟩ := HJ2.out
  have hss : ((s.size : Int) == s.size) = true := by simp
  have hne1 : w.heap.size ≠ w1x.heap.size := by have := HM.out.1.size; simp at this; omega
  have hne2 : ¬ w.heap.size = w1x.heap.size := hne1
  go_region_held3 (fun w' => w'.cell? ⟨w1x.heap.size, 0, none⟩ = some (.int .i64 k1) ∧ w'.cell? ⟨w1x.heap.size, 1, none⟩ = some (.int .u64 n1) ∧ w'.cell? ⟨w1x.heap.size, 2, none⟩ = some (.string t1) ∧ w'.cell? ⟨w1x.heap.size, 3, none⟩ = some (.int .i64 e1) ∧ w'.cell? ⟨w1x.heap.size, 4, none⟩ = some (.slice A1 l1 cc1) ∧
    w'.cell? ⟨w.heap.size + 1, 1, none⟩ = some (.int .i64 (s.size : Nat)) ∧ w'.cell? ⟨w.heap.size + 1, 2, none⟩ = some (.bool false)) (first | (go_keep; done) | (go_simp; done)) (fail)
  go_wp2
  refine bodyPost_ret (res_cell5 rfl rfl rfl ((HR2.out.only (Only.drew (Only.refl (fun _ => False) _)) (fun h => h)).sets _ _ _ _ _)) rfl ?_
  have hs5 := only_sets5' w2.drew w.heap.size (.int .i64 k1) (.int .u64 n1) (.string t1) (.int .i64 e1) (.slice A1 l1 cc1)
  have hd : Only (fun _ => False) w2 w2.drew := Only.drew (Only.refl _ _)
  refine ⟨_, _, _, _, _, rfl, ?_, ?_⟩
  · refine HQ2.out.keep fun k hk hok => ⟨by omega, (hs5.block k hk (fun e => by have e : k = w.heap.size := e; omega)).trans (hd.block k hk (fun h => h))⟩
  · exact (HO2.out.trans hd).trans' hs5 fun i hi e => by have e : i = w.heap.size := e; omega
end Go.Proofs.YtbgckolcimlofaaGreatDoor
namespace Go.Proofs.YtbgckolcimlofaaGreatDoor
open Go.RowKit YtbgckolcimlofaaGreatDoorPj

def WrotePost (X : Nat → Prop) (t : Nat) (out : List UInt8) (w0 : World) (e : Ending) (w' : World) : Prop := ∃ z : Int, e = .returned (.tuple #[.int .i64 z, .nilIface]) ∧ (∃ G, Txt w' G t out) ∧ Only X w0 w'
/-- At the end of the data. -/
theorem JsTo.ends {w0 w : World} {X : Nat → Prop} {m s t d : Nat} {out : List UInt8} {v : Value} (h : JsTo X m s t d [] out w0 w) (hv : EofAt w0 v) (hX : ¬ X 0) (x : Value) :
    Calls Tryz.prog 29 #[x, .pointer (some ⟨m, 0, none⟩)] w fun e w' => e = .returned (.tuple #[.int .i64 0, v]) ∧ (∃ G, Txt w' G t out) ∧ Only X w0 w' ∧ EofAt w' v := by
  obtain ⟨F, G, u, xs, h1, h2, h3, h4, h5, h6, h7⟩ := h.js.ex
  have h0 : 0 < w0.heap.size := World.block_lt_of_cell? w0 _ hv.1
  have hF0 : ¬ F 0 := fun e => by
    rcases (h6 0 e).1 with e | e
    · exact hX e
    · omega
  refine (rwNext_end w F m s v x h1 (hv.only h.only hX) hF0 h.js.c0).mono ?_
  rintro e w' ⟨rfl, ho⟩
  refine ⟨rfl, ⟨G, h2.only ho fun k hk e => (h6 k e).2.1 hk⟩, h.only.trans' ho fun i hi e => ?_, (hv.only h.only hX).only ho hF0⟩
  rcases (h6 i e).1 with e | e
  · exact e
  · omega
theorem tryz_u44 : Tryz.prog.underlying 44 = some (.interface #[("Error", 91)]) := by kernel_rfl
theorem tryz_u225 : Tryz.prog.underlying 225 = some (.pointer 227) := by kernel_rfl
theorem tryz_c225 : (Tryz.prog.info? 225).map (·.comparable) = some true := by kernel_rfl
theorem tryz_s227 : (Tryz.prog.info? 227).map (·.size) = some 1 := by kernel_rfl
theorem neqSelf (q : Addr) (w : World) : (binOp .neq 44 (.iface 225 (.pointer (some q))) (.iface 225 (.pointer (some q)))).run Tryz.prog w = .ok (.bool false) w := by
  have ht := tryz_u44
  have hc := tryz_c225
  have hs := tryz_s227
  cases hi : Tryz.prog.info? 225 with
  | none => simp [hi] at hc
  | some i =>
    cases hi2 : Tryz.prog.info? 227 with
    | none => simp [hi2] at hs
    | some i2 =>
      have hcc : i.comparable = true := by simpa [hi] using hc
      have hss : i2.size = 1 := by simpa [hi2] using hs
      have h : ∀ d : Nat, (Op.equalIn (d + 2) 44 (.iface 225 (.pointer (some q))) (.iface 225 (.pointer (some q)))).run Tryz.prog w = .ok true w := fun d => by
        simp [Op.equalIn, run_underlying ht, run_underlying tryz_u225, typeInfo, sizeOf, hi, hi2, hcc, hss, run_sameAddr_same]
      simp only [binOp]
      simp [Op.equal, Op.maxDepth, h 9998]
theorem assertW (a : Addr) (w : World) : (Instr.typeAssert (.iface 49 (.pointer (some a))) 73 75 false).run Tryz.prog w = .ok (.iface 49 (.pointer (some a))) w := by
  show _ = _
  kernel_rfl
set_option maxRecDepth 100000 in
set_option maxHeartbeats 4000000 in
theorem writeToJSON (p : P) (n : Nat) (bs : List UInt8) (hE : Enc p bs) (hf : Fit n p) (hj : JOk VD p) (he : NoEmpty p) (hn : NumOk p) (X : Nat → Prop) (m s t : Nat) (v : Value) (w : World) (h : Js w X m s t 0 bs []) (hlib : LibHere X w) (hd : n ≤ 1000) (hl : 1000000 * cnt p ≤ 30000000000000) (hv : EofAt w v) (hX : ¬ X 0) :
    Calls Tryz.prog 14 #[.pointer (some ⟨m, 0, none⟩), .iface 49 (.pointer (some ⟨t, 0, none⟩))] w (WrotePost X t (js p) w) := by
  have H1 : Hid (Calls Tryz.prog 29 #[.iface 49 (.pointer (some ⟨t, 0, none⟩)), .pointer (some ⟨m, 0, none⟩)] w (JPost X m s t 0 [] (js p) w)) :=
    hid (by have := rwAt p n bs hE hf hj he hn X m s t 0 [] [] w w (JsTo.start (by simpa using h)) hlib (by omega) (by simpa using hl); simpa using this)
  have HE : Hid (∀ w1 x, JsTo X m s t 0 [] (js p) w w1 → Calls Tryz.prog 29 #[x, .pointer (some ⟨m, 0, none⟩)] w1 fun e w' => e = .returned (.tuple #[.int .i64 0, v]) ∧ (∃ G, Txt w' G t (js p)) ∧ Only X w w' ∧ EofAt w' v) := hid fun w1 x h1 => h1.ends hv hX x
  obtain ⟨q, rfl⟩ := hv.2
  clear h hlib hE hf hj he hn hv
  have hta := assertW ⟨t, 0, none⟩ w
  go_enter Tryz.func14, Tryz.ntmps14
  go_wp2
  go_loopg [4, 5, 7] 2 (fun gm v4 v5 v7 wr => ∃ z z2 : Int, v4 = .int .i64 z ∧ v7 = .int .i64 z2 ∧ ((gm = 2 ∧ v5 = .nilIface ∧ wr = w) ∨ (gm = 1 ∧ v5 = .nilIface ∧ Hid (JsTo X m s t 0 [] (js p) w wr)) ∨ (gm = 0 ∧ v5 = .iface 225 (.pointer (some q)) ∧ Hid ((∃ G, Txt wr G t (js p)) ∧ Only X w wr ∧ EofAt wr (.iface 225 (.pointer (some q)))))))
  case atStart => exact ⟨_, _, rfl, rfl, Or.inl ⟨rfl, rfl, rfl⟩⟩
  case round =>
    obtain ⟨z, z2, rfl, rfl, ⟨rfl, rfl, rfl⟩ | ⟨rfl, rfl, HJ⟩ | ⟨rfl, rfl, HF⟩⟩ := hrel
    · go_wp2_with (go_at_call 29; refine H1.out.mono ?_; rintro e w1 ⟨z1, rfl, h1⟩; have HJ := hid h1; clear h1)
      go_roundg 1
      case measure => omega
      case rel => exact ⟨_, _, rfl, rfl, Or.inr (Or.inl ⟨rfl, rfl, HJ⟩)⟩
    · go_wp2_with (go_at_call 29; refine (HE.out _ _ HJ.out).mono ?_; rintro e w1 ⟨rfl, h1⟩; have HF := hid h1; clear h1)
      go_roundg 0
      case measure => omega
      case rel => exact ⟨_, _, rfl, rfl, Or.inr (Or.inr ⟨rfl, rfl, HF⟩)⟩
    · have cg := HF.out.2.2.1
      have hns := neqSelf q wr
      go_wp2
      go_ret2
      exact ⟨_, rfl, HF.out.1, HF.out.2.1⟩
end Go.Proofs.YtbgckolcimlofaaGreatDoor
namespace Go.Proofs.YtbgckolcimlofaaGreatDoor
open Go.RowKit YtbgckolcimlofaaGreatDoorPj

def CopiedPost (bs : List UInt8) (w : World) (e : Ending) (w' : World) : Prop := ∃ g cap, e = .returned (.slice (some ⟨g, 0, none⟩) bs.length cap) ∧ bs.length ≤ cap ∧ cap ≤ maxLen ∧ w.heap.size ≤ g ∧ Row w' w.heap.size (.slice (some ⟨g, 0, none⟩) bs.length cap) bs ∧ Only (fun _ => False) w w'
set_option maxRecDepth 100000 in
set_option maxHeartbeats 4000000 in
theorem copied (w : World) (g0 off c : Nat) (bs : List UInt8) (h0 : 0 < bs.length) (hbig : bs.length ≤ 1000000000) (hb : BytesAt w (some ⟨g0, off, none⟩) bs) :
    Calls Tryz.prog 26 #[.slice (some ⟨g0, off, none⟩) bs.length c] w (CopiedPost bs w) := by
  have HB := hid hb
  clear hb
  generalize hL : bs.length = L at h0 hbig ⊢
  have HL := hid hL
  clear hL
  have HC : Hid (∀ j (hj : j < bs.length), (w.alloc (.cells #[] 5)).cell? ((⟨g0, off, none⟩ : Addr).add j) = some (u8v bs[j])) := hid fun j hj => by
    obtain ⟨b, o, e, hc⟩ := (HB.out.only (Only.alloc (Only.refl (fun _ => False) w) (.cells #[] 5))) j hj
    injection e with e
    injection e with e1 e2
    subst e1 e2
    rw [Addr.add_lit]
    exact hc
  have HR : Hid (Row (w.alloc (.cells #[] 5)) w.heap.size (.slice (some ⟨w.heap.size, 0, none⟩) 0 0) []) := hid ⟨by simp, Or.inr ⟨w.heap.size, 0, #[], rfl, Nat.le_refl _, (by show (w.heap.push _)[w.heap.size]? = _; simp), by simp, by unfold maxLen; omega, by simp, by simp⟩⟩
  go_enter Tryz.func26, Tryz.ntmps26
  go_wp2_with (at_builtin; refine row_append rfl _ _ rfl w.heap.size (.slice (some ⟨w.heap.size, 0, none⟩) 0 0) [] rfl HR.out ⟨g0, off, none⟩ L c bs rfl HL.out HC.out (by have := HL.out; simp; omega) (by simp) ?_; intro v' w1 r1 r2 r3; have R1 := hid r1; have R2 := hid r2; clear r1 r2 r3)
  go_ret
  have r1 := R1.out
  rw [List.nil_append] at r1
  rcases r1.open with ⟨_, e⟩ | ⟨g, cap, rfl, hg1, hg2, hc1, hc2, _⟩
  · have := HL.out
    rw [e] at this
    simp at this
    omega
  · refine ⟨g, cap, rfl, hc1, hc2, hg1, r1, ?_⟩
    exact (Only.alloc (Only.refl (fun _ => False) w) (.cells #[] 5)).grown R2.out fun k hk hkw => by
      have e : w.heap.size = k := by simpa [Value.ownBlock] using hk
      omega
end Go.Proofs.YtbgckolcimlofaaGreatDoor
