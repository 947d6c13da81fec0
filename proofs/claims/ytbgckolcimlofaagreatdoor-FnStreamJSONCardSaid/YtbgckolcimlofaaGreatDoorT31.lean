/-
  The pairs of a map in a row; for values that fit.
  rwMap, the loop; where the items are read.
-/
import Derived.Test.YtbgckolcimlofaaGreatDoorProg
import Derived.Test.YtbgckolcimlofaaGreatDoorT30
set_option linter.unusedVariables false
set_option linter.unusedSimpArgs false
namespace Go.Proofs.YtbgckolcimlofaaGreatDoor
open Go.RowKit YtbgckolcimlofaaGreatDoorPj

/-- The next value is of a type. -/
def TypeIs (bs : List UInt8) (ty : Int) : Prop := ∀ (X : Nat → Prop) (m s t d : Nat) (r out : List UInt8) (w0 w : World), JsTo X m s t d (bs ++ r) out w0 w →
  Calls Tryz.prog 40 #[.pointer (some ⟨m, 0, none⟩)] w fun e w' => e = .returned (.tuple #[.int .u8 ty, .nilIface]) ∧ JsTo X m s t d (bs ++ r) out w0 w'
theorem typeIs (b : UInt8) (rest : List UInt8) (ty : Int) (ht : ∀ w, Calls Tryz.prog 46 #[.int .u8 (b.toNat : Int)] w (TypePost ty w)) (h0 : (ty == 0) = false) (h12 : (ty == 12) = false) : TypeIs (b :: rest) ty := by
  intro X m s t d r out w0 w h
  obtain ⟨F, h1, h2, h3, h4, h5⟩ := h.reads
  exact (nextType m b ty ht h0 h12 F s (rest ++ r) w w h1.went h4 h3 h2).mono fun e w' ⟨he, hw⟩ => ⟨he, h5 _ _ hw⟩
theorem TypeIs.app {a : List UInt8} {ty : Int} (h : TypeIs a ty) (b : List UInt8) : TypeIs (a ++ b) ty := by
  intro X m s t d r out w0 w hj
  rw [List.append_assoc] at hj ⊢
  exact h X m s t d (b ++ r) out w0 w hj
/-- The next value is a key. -/
def KeyIs (bs key : List UInt8) : Prop := ∀ (X : Nat → Prop) (m s t d : Nat) (r out : List UInt8) (w0 w : World), JsTo X m s t d (bs ++ r) out w0 w →
  Calls Tryz.prog 84 #[.pointer (some ⟨m, 0, none⟩)] w (Got X m s t d r out w0 key)
theorem holds_lt {n c s : Nat} (h : holds n (c, s) = true) (hs : s < 8) : n < 2 ^ (8 * s) := by
  unfold holds at h
  simp at h
  rcases h with h | h
  · omega
  · rw [Nat.shiftRight_eq_div_pow] at h
    have := Nat.div_add_mod n (2 ^ (8 * s))
    rw [h] at this
    have h2 := Nat.mod_lt n (Nat.two_pow_pos (8 * s))
    omega
theorem u8n {n : Nat} (h : n < 256) : (UInt8.ofNat n).toNat = n := u8_toNat_ofNat h
theorem Head.text {n : Nat} {h : List UInt8} (hh : Head 160 32 n fsText h) : (∃ b : UInt8, h = [b] ∧ b.toNat = 160 + n ∧ n < 32) ∨ (n < 256 ∧ h = 217 :: be 1 n) ∨ (n < 65536 ∧ h = 218 :: be 2 n) ∨ (n < 4294967296 ∧ h = 219 :: be 4 n) := by
  rcases hh with ⟨_, h1, rfl⟩ | ⟨f, hf, hh, rfl⟩
  · exact Or.inl ⟨_, rfl, u8n (by simp; omega), h1⟩
  · simp only [fsText, List.mem_cons, List.not_mem_nil, or_false] at hf
    rcases hf with rfl | rfl | rfl
    · exact Or.inr (Or.inl ⟨by simpa using holds_lt hh (by omega), rfl⟩)
    · exact Or.inr (Or.inr (Or.inl ⟨by simpa using holds_lt hh (by omega), rfl⟩))
    · exact Or.inr (Or.inr (Or.inr ⟨by simpa using holds_lt hh (by omega), rfl⟩))
theorem Head.bin {n : Nat} {h : List UInt8} (hh : Head (-1) 0 n fsBin h) : (n < 256 ∧ h = 196 :: be 1 n) ∨ (n < 65536 ∧ h = 197 :: be 2 n) ∨ (n < 4294967296 ∧ h = 198 :: be 4 n) := by
  rcases hh with ⟨h0, _⟩ | ⟨f, hf, hh, rfl⟩
  · omega
  · simp only [fsBin, List.mem_cons, List.not_mem_nil, or_false] at hf
    rcases hf with rfl | rfl | rfl
    · exact Or.inl ⟨by simpa using holds_lt hh (by omega), rfl⟩
    · exact Or.inr (Or.inl ⟨by simpa using holds_lt hh (by omega), rfl⟩)
    · exact Or.inr (Or.inr ⟨by simpa using holds_lt hh (by omega), rfl⟩)
theorem Head.arr {n : Nat} {h : List UInt8} (hh : Head 144 16 n fsArr h) : (∃ b : UInt8, h = [b] ∧ b.toNat = 144 + n ∧ n < 16) ∨ (n < 65536 ∧ h = 220 :: be 2 n) ∨ (n < 4294967296 ∧ h = 221 :: be 4 n) := by
  rcases hh with ⟨_, h1, rfl⟩ | ⟨f, hf, hh, rfl⟩
  · exact Or.inl ⟨_, rfl, u8n (by simp; omega), h1⟩
  · simp only [fsArr, List.mem_cons, List.not_mem_nil, or_false] at hf
    rcases hf with rfl | rfl
    · exact Or.inr (Or.inl ⟨by simpa using holds_lt hh (by omega), rfl⟩)
    · exact Or.inr (Or.inr ⟨by simpa using holds_lt hh (by omega), rfl⟩)
theorem Head.map {n : Nat} {h : List UInt8} (hh : Head 128 16 n fsMap h) : (∃ b : UInt8, h = [b] ∧ b.toNat = 128 + n ∧ n < 16) ∨ (n < 65536 ∧ h = 222 :: be 2 n) ∨ (n < 4294967296 ∧ h = 223 :: be 4 n) := by
  rcases hh with ⟨_, h1, rfl⟩ | ⟨f, hf, hh, rfl⟩
  · exact Or.inl ⟨_, rfl, u8n (by simp; omega), h1⟩
  · simp only [fsMap, List.mem_cons, List.not_mem_nil, or_false] at hf
    rcases hf with rfl | rfl
    · exact Or.inr (Or.inl ⟨by simpa using holds_lt hh (by omega), rfl⟩)
    · exact Or.inr (Or.inr ⟨by simpa using holds_lt hh (by omega), rfl⟩)
theorem text_type {n : Nat} {h : List UInt8} (hh : Head 160 32 n fsText h) : TypeIs h 1 := by
  rcases hh.text with ⟨b, rfl, hb, hn⟩ | ⟨_, rfl⟩ | ⟨_, rfl⟩ | ⟨_, rfl⟩
  · exact typeIs b [] 1 (fun w => by rw [hb]; exact gtype _ _ w fun w => spec_fixstr (160 + n) (by omega) (by omega) w) rfl rfl
  · exact typeIs 217 _ 1 type_217 rfl rfl
  · exact typeIs 218 _ 1 type_218 rfl rfl
  · exact typeIs 219 _ 1 type_219 rfl rfl
theorem bin_type {n : Nat} {h : List UInt8} (hh : Head (-1) 0 n fsBin h) : TypeIs h 2 := by
  rcases hh.bin with ⟨_, rfl⟩ | ⟨_, rfl⟩ | ⟨_, rfl⟩
  · exact typeIs 196 _ 2 type_196 rfl rfl
  · exact typeIs 197 _ 2 type_197 rfl rfl
  · exact typeIs 198 _ 2 type_198 rfl rfl
theorem arr_type {n : Nat} {h : List UInt8} (hh : Head 144 16 n fsArr h) : TypeIs h 4 := by
  rcases hh.arr with ⟨b, rfl, hb, hn⟩ | ⟨_, rfl⟩ | ⟨_, rfl⟩
  · exact typeIs b [] 4 (fun w => by rw [hb]; exact gtype _ _ w fun w => spec_fixarray (144 + n) (by omega) (by omega) w) rfl rfl
  · exact typeIs 220 _ 4 type_220 rfl rfl
  · exact typeIs 221 _ 4 type_221 rfl rfl
theorem map_type {n : Nat} {h : List UInt8} (hh : Head 128 16 n fsMap h) : TypeIs h 3 := by
  rcases hh.map with ⟨b, rfl, hb, hn⟩ | ⟨_, rfl⟩ | ⟨_, rfl⟩
  · exact typeIs b [] 3 (fun w => by rw [hb]; exact gtype _ _ w fun w => spec_fixmap (128 + n) (by omega) (by omega) w) rfl rfl
  · exact typeIs 222 _ 3 type_222 rfl rfl
  · exact typeIs 223 _ 3 type_223 rfl rfl
theorem arr_reads {n : Nat} {h : List UInt8} (hh : Head 144 16 n fsArr h) : ReadsInt 85 h (.int .u32 (n : Nat)) := by
  intro F m s r w hw c0 hm hF
  rcases hh.arr with ⟨b, rfl, hb, hn⟩ | ⟨hn, rfl⟩ | ⟨hn, rfl⟩
  · exact readArray_fix m n b hb hn F s r w w hw c0 hm hF
  · exact readArray_220 m n hn F s r w w hw c0 hm hF
  · exact readArray_221 m n hn F s r w w hw c0 hm hF
theorem map_reads {n : Nat} {h : List UInt8} (hh : Head 128 16 n fsMap h) : ReadsInt 78 h (.int .u32 (n : Nat)) := by
  intro F m s r w hw c0 hm hF
  rcases hh.map with ⟨b, rfl, hb, hn⟩ | ⟨hn, rfl⟩ | ⟨hn, rfl⟩
  · exact readMap_fix m n b hb hn F s r w w hw c0 hm hF
  · exact readMap_222 m n hn F s r w w hw c0 hm hF
  · exact readMap_223 m n hn F s r w w hw c0 hm hF
theorem key_is {k : ByteArray} {h : List UInt8} (hh : Head 160 32 k.size fsText h) (h0 : k.size ≠ 0) (hs : k.size ≤ 131072) : KeyIs (h ++ tx k) (tx k) := by
  intro X m s t d r out w0 w hj
  have hl := tx_length k
  rw [List.append_assoc] at hj
  rcases hh.text with ⟨b, rfl, hb, hn⟩ | ⟨hn, rfl⟩ | ⟨hn, rfl⟩ | ⟨hn, rfl⟩
  · exact readKey_fix (tx k) k.size b hb hl hn X m s t d r out w0 w hj (by omega)
  · exact readKey_217 (tx k) k.size hl hn X m s t d r out w0 w hj (by omega) (by omega)
  · exact readKey_218 (tx k) k.size hl hn X m s t d r out w0 w hj (by omega) (by omega)
  · exact readKey_219 (tx k) k.size hl hn X m s t d r out w0 w hj (by omega) (by omega)
theorem text_is (hq : QuoteOk) {k : ByteArray} {h : List UInt8} (hh : Head 160 32 k.size fsText h) (hs : k.size ≤ 131072) (hv : VD (tx k)) (X : Nat → Prop) (m s t d : Nat) (r out : List UInt8) (w0 w : World) (hj : JsTo X m s t d ((h ++ tx k) ++ r) out w0 w) (hlib : LibHere X w0) (hl : out.length ≤ 34184372088832) :
    Calls Tryz.prog 48 #[.iface 49 (.pointer (some ⟨t, 0, none⟩)), .pointer (some ⟨m, 0, none⟩)] w (JPost X m s t d r (out ++ quote (tx k)) w0) := by
  have htl := tx_length k
  rw [List.append_assoc] at hj
  rcases hh.text with ⟨b, rfl, hb, hn⟩ | ⟨hn, rfl⟩ | ⟨hn, rfl⟩ | ⟨hn, rfl⟩
  · exact rwString_fix hq (tx k) k.size b hb htl hn hv X m s t d r out w0 w hj hlib hl
  · exact rwString_217 hq (tx k) k.size htl hn hv X m s t d r out w0 w hj hlib hl (by omega)
  · exact rwString_218 hq (tx k) k.size htl hn hv X m s t d r out w0 w hj hlib hl (by omega)
  · exact rwString_219 hq (tx k) k.size htl hn hv X m s t d r out w0 w hj hlib hl (by omega)
theorem toNat_signed {n : Nat} (s : Nat) (hs : s = 1 ∨ s = 2 ∨ s = 4 ∨ s = 8) : True := trivial
end Go.Proofs.YtbgckolcimlofaaGreatDoor
namespace Go.Proofs.YtbgckolcimlofaaGreatDoor
open Go.RowKit YtbgckolcimlofaaGreatDoorPj

theorem pow2s : (2:Nat)^8 = 256 ∧ (2:Nat)^16 = 65536 ∧ (2:Nat)^32 = 4294967296 := by decide
/-- What 'rwInt', 'rwUint' need of an integer's bytes. -/
def IntIs (bs : List UInt8) (i : Int) : Prop := (TypeIs bs 8 ∧ (-9223372036854775808 ≤ i ∧ i ≤ 9223372036854775807) ∧ ReadsInt 80 bs (.int .i64 i)) ∨ (TypeIs bs 9 ∧ 0 ≤ i ∧ ReadsInt 82 bs (.int .u64 i))
theorem IPos.is {u : Nat} {bs : List UInt8} (h : IPos u bs) (hu : u < 18446744073709551616) : IntIs bs (u : Int) := by
  rcases h with ⟨h1, rfl⟩ | ⟨f, hf, hh, rfl⟩ | ⟨i, s, hm, hlt, rfl⟩
  · have hb : (UInt8.ofNat u).toNat = u := u8n (by omega)
    refine Or.inl ⟨typeIs _ [] 8 (fun w => by rw [hb]; exact type_fixint u (by omega) h1 w) rfl rfl, ⟨by omega, by omega⟩, fun F m s r w hw c0 hm hF => ?_⟩
    have := readInt_fix m (UInt8.ofNat u) (by omega) F s r w w hw c0 hm hF
    rw [hb] at this
    exact this
  · simp only [List.mem_cons, List.not_mem_nil, or_false] at hf
    rcases hf with rfl | rfl | rfl | rfl
    · have hl := holds_lt hh (by omega)
      refine Or.inr ⟨typeIs 204 _ 9 type_204 rfl rfl, by omega, fun F m s r w hw c0 hm hF => ?_⟩
      have := readUint_204 m u F s r w w hw c0 hm hF
      rwa [show IntKind.u8.wrap (u : Int) = (u : Int) by simp [IntKind.wrap, IntKind.bits, IntKind.signed]; omega] at this
    · have hl := holds_lt hh (by omega)
      refine Or.inr ⟨typeIs 205 _ 9 type_205 rfl rfl, by omega, fun F m s r w hw c0 hm hF => ?_⟩
      have := readUint_205 m u F s r w w hw c0 hm hF
      rwa [show IntKind.u16.wrap (u : Int) = (u : Int) by simp [IntKind.wrap, IntKind.bits, IntKind.signed]; omega] at this
    · have hl := holds_lt hh (by omega)
      refine Or.inr ⟨typeIs 206 _ 9 type_206 rfl rfl, by omega, fun F m s r w hw c0 hm hF => ?_⟩
      have := readUint_206 m u F s r w w hw c0 hm hF
      rwa [show IntKind.u32.wrap (u : Int) = (u : Int) by simp [IntKind.wrap, IntKind.bits, IntKind.signed]; omega] at this
    · refine Or.inr ⟨typeIs 207 _ 9 type_207 rfl rfl, by omega, fun F m s r w hw c0 hm hF => ?_⟩
      have := readUint_207 m u F s r w w hw c0 hm hF
      rwa [show IntKind.u64.wrap (u : Int) = (u : Int) by simp [IntKind.wrap, IntKind.bits, IntKind.signed]; omega] at this
  · simp only [List.mem_cons, Prod.mk.injEq, List.not_mem_nil, or_false] at hm
    rcases hm with ⟨rfl, rfl⟩ | ⟨rfl, rfl⟩ | ⟨rfl, rfl⟩ | ⟨rfl, rfl⟩
    · refine Or.inl ⟨typeIs 208 _ 8 type_208 rfl rfl, ⟨by omega, by omega⟩, fun F m s r w hw c0 hm hF => ?_⟩
      have := readInt_208 m u F s r w w hw c0 hm hF
      rwa [show IntKind.i8.wrap (u : Int) = (u : Int) by simp [IntKind.wrap, IntKind.bits, IntKind.signed]; omega] at this
    · refine Or.inl ⟨typeIs 209 _ 8 type_209 rfl rfl, ⟨by omega, by omega⟩, fun F m s r w hw c0 hm hF => ?_⟩
      have := readInt_209 m u F s r w w hw c0 hm hF
      rwa [show IntKind.i16.wrap (u : Int) = (u : Int) by simp [IntKind.wrap, IntKind.bits, IntKind.signed]; omega] at this
    · refine Or.inl ⟨typeIs 210 _ 8 type_210 rfl rfl, ⟨by omega, by omega⟩, fun F m s r w hw c0 hm hF => ?_⟩
      have := readInt_210 m u F s r w w hw c0 hm hF
      rwa [show IntKind.i32.wrap (u : Int) = (u : Int) by simp [IntKind.wrap, IntKind.bits, IntKind.signed]; omega] at this
    · refine Or.inl ⟨typeIs 211 _ 8 type_211 rfl rfl, ⟨by omega, by omega⟩, fun F m s r w hw c0 hm hF => ?_⟩
      have := readInt_211 m u F s r w w hw c0 hm hF
      rwa [show IntKind.i64.wrap (u : Int) = (u : Int) by simp [IntKind.wrap, IntKind.bits, IntKind.signed]; omega] at this
theorem INeg.is {u : Nat} {bs : List UInt8} (h : INeg u bs) (hu : u < 18446744073709551616) (hu2 : 9223372036854775808 ≤ u) : IntIs bs ((u : Int) - 18446744073709551616) := by
  rcases h with ⟨h1, rfl⟩ | ⟨i, s, hm, hlt, rfl⟩
  · have hb : (UInt8.ofNat u).toNat = u % 256 := by simp
    refine Or.inl ⟨typeIs _ [] 8 (fun w => by rw [hb]; exact type_nfixint (u % 256) (by omega) (by omega) w) rfl rfl, ⟨by omega, by omega⟩, fun F m s r w hw c0 hm hF => ?_⟩
    have := readInt_nfix m (UInt8.ofNat u) (by omega) F s r w w hw c0 hm hF
    rw [hb] at this
    rwa [show ((u % 256 : Nat) : Int) - 256 = (u : Int) - 18446744073709551616 by omega] at this
  · simp only [List.mem_cons, Prod.mk.injEq, List.not_mem_nil, or_false] at hm
    rcases hm with ⟨rfl, rfl⟩ | ⟨rfl, rfl⟩ | ⟨rfl, rfl⟩ | ⟨rfl, rfl⟩
    · refine Or.inl ⟨typeIs 208 _ 8 type_208 rfl rfl, ⟨by omega, by omega⟩, fun F m s r w hw c0 hm hF => ?_⟩
      have := readInt_208 m u F s r w w hw c0 hm hF
      rwa [show IntKind.i8.wrap (u : Int) = (u : Int) - 18446744073709551616 by simp [IntKind.wrap, IntKind.bits, IntKind.signed]; omega] at this
    · refine Or.inl ⟨typeIs 209 _ 8 type_209 rfl rfl, ⟨by omega, by omega⟩, fun F m s r w hw c0 hm hF => ?_⟩
      have := readInt_209 m u F s r w w hw c0 hm hF
      rwa [show IntKind.i16.wrap (u : Int) = (u : Int) - 18446744073709551616 by simp [IntKind.wrap, IntKind.bits, IntKind.signed]; omega] at this
    · refine Or.inl ⟨typeIs 210 _ 8 type_210 rfl rfl, ⟨by omega, by omega⟩, fun F m s r w hw c0 hm hF => ?_⟩
      have := readInt_210 m u F s r w w hw c0 hm hF
      rwa [show IntKind.i32.wrap (u : Int) = (u : Int) - 18446744073709551616 by simp [IntKind.wrap, IntKind.bits, IntKind.signed]; omega] at this
    · refine Or.inl ⟨typeIs 211 _ 8 type_211 rfl rfl, ⟨by omega, by omega⟩, fun F m s r w hw c0 hm hF => ?_⟩
      have := readInt_211 m u F s r w w hw c0 hm hF
      rwa [show IntKind.i64.wrap (u : Int) = (u : Int) - 18446744073709551616 by simp [IntKind.wrap, IntKind.bits, IntKind.signed]; omega] at this
set_option maxRecDepth 100000 in
set_option maxHeartbeats 1000000 in
theorem rwNext_1 {X : Nat → Prop} {m s t d : Nat} {bs r out res : List UInt8} {w0 w : World} (h : JsTo X m s t d (bs ++ r) out w0 w) (ht : TypeIs bs 1)
    (hK : ∀ w1, JsTo X m s t d (bs ++ r) out w0 w1 → Calls Tryz.prog 48 #[.iface 49 (.pointer (some ⟨t, 0, none⟩)), .pointer (some ⟨m, 0, none⟩)] w1 (JPost X m s t d r res w0)) :
    Calls Tryz.prog 29 #[.iface 49 (.pointer (some ⟨t, 0, none⟩)), .pointer (some ⟨m, 0, none⟩)] w (JPost X m s t d r res w0) := by
  have J0 := hid h
  have HT := hid ht
  have HK := hid hK
  clear h ht hK
  go_enter Tryz.func29, Tryz.ntmps29
  go_wp2_with (first
    | (go_at_call 40; refine (HT.out _ _ _ _ _ _ _ _ _ J0.out).mono ?_; rintro e w1 ⟨rfl, h1⟩; have J1 := hid h1; clear h1)
    | (go_at_call 41; refine (defun_1 _).mono ?_; rintro e w' ⟨rfl, rfl⟩)
    | (go_at_call 48; refine (HK.out _ J1.out).mono ?_; rintro e w2 ⟨z, rfl, h2⟩; have J2 := hid h2; clear h2))
  go_ret2
  exact ⟨_, rfl, J2.out⟩
set_option maxRecDepth 100000 in
set_option maxHeartbeats 1000000 in
theorem rwNext_2 {X : Nat → Prop} {m s t d : Nat} {bs r out res : List UInt8} {w0 w : World} (h : JsTo X m s t d (bs ++ r) out w0 w) (ht : TypeIs bs 2)
    (hK : ∀ w1, JsTo X m s t d (bs ++ r) out w0 w1 → Calls Tryz.prog 49 #[.iface 49 (.pointer (some ⟨t, 0, none⟩)), .pointer (some ⟨m, 0, none⟩)] w1 (JPost X m s t d r res w0)) :
    Calls Tryz.prog 29 #[.iface 49 (.pointer (some ⟨t, 0, none⟩)), .pointer (some ⟨m, 0, none⟩)] w (JPost X m s t d r res w0) := by
  have J0 := hid h
  have HT := hid ht
  have HK := hid hK
  clear h ht hK
  go_enter Tryz.func29, Tryz.ntmps29
  go_wp2_with (first
    | (go_at_call 40; refine (HT.out _ _ _ _ _ _ _ _ _ J0.out).mono ?_; rintro e w1 ⟨rfl, h1⟩; have J1 := hid h1; clear h1)
    | (go_at_call 41; refine (defun_2 _).mono ?_; rintro e w' ⟨rfl, rfl⟩)
    | (go_at_call 49; refine (HK.out _ J1.out).mono ?_; rintro e w2 ⟨z, rfl, h2⟩; have J2 := hid h2; clear h2))
  go_ret2
  exact ⟨_, rfl, J2.out⟩
set_option maxRecDepth 100000 in
set_option maxHeartbeats 1000000 in
theorem rwNext_3 {X : Nat → Prop} {m s t d : Nat} {bs r out res : List UInt8} {w0 w : World} (h : JsTo X m s t d (bs ++ r) out w0 w) (ht : TypeIs bs 3)
    (hK : ∀ w1, JsTo X m s t d (bs ++ r) out w0 w1 → Calls Tryz.prog 50 #[.iface 49 (.pointer (some ⟨t, 0, none⟩)), .pointer (some ⟨m, 0, none⟩)] w1 (JPost X m s t d r res w0)) :
    Calls Tryz.prog 29 #[.iface 49 (.pointer (some ⟨t, 0, none⟩)), .pointer (some ⟨m, 0, none⟩)] w (JPost X m s t d r res w0) := by
  have J0 := hid h
  have HT := hid ht
  have HK := hid hK
  clear h ht hK
  go_enter Tryz.func29, Tryz.ntmps29
  go_wp2_with (first
    | (go_at_call 40; refine (HT.out _ _ _ _ _ _ _ _ _ J0.out).mono ?_; rintro e w1 ⟨rfl, h1⟩; have J1 := hid h1; clear h1)
    | (go_at_call 41; refine (defun_3 _).mono ?_; rintro e w' ⟨rfl, rfl⟩)
    | (go_at_call 50; refine (HK.out _ J1.out).mono ?_; rintro e w2 ⟨z, rfl, h2⟩; have J2 := hid h2; clear h2))
  go_ret2
  exact ⟨_, rfl, J2.out⟩
set_option maxRecDepth 100000 in
set_option maxHeartbeats 1000000 in
theorem rwNext_4 {X : Nat → Prop} {m s t d : Nat} {bs r out res : List UInt8} {w0 w : World} (h : JsTo X m s t d (bs ++ r) out w0 w) (ht : TypeIs bs 4)
    (hK : ∀ w1, JsTo X m s t d (bs ++ r) out w0 w1 → Calls Tryz.prog 51 #[.iface 49 (.pointer (some ⟨t, 0, none⟩)), .pointer (some ⟨m, 0, none⟩)] w1 (JPost X m s t d r res w0)) :
    Calls Tryz.prog 29 #[.iface 49 (.pointer (some ⟨t, 0, none⟩)), .pointer (some ⟨m, 0, none⟩)] w (JPost X m s t d r res w0) := by
  have J0 := hid h
  have HT := hid ht
  have HK := hid hK
  clear h ht hK
  go_enter Tryz.func29, Tryz.ntmps29
  go_wp2_with (first
    | (go_at_call 40; refine (HT.out _ _ _ _ _ _ _ _ _ J0.out).mono ?_; rintro e w1 ⟨rfl, h1⟩; have J1 := hid h1; clear h1)
    | (go_at_call 41; refine (defun_4 _).mono ?_; rintro e w' ⟨rfl, rfl⟩)
    | (go_at_call 51; refine (HK.out _ J1.out).mono ?_; rintro e w2 ⟨z, rfl, h2⟩; have J2 := hid h2; clear h2))
  go_ret2
  exact ⟨_, rfl, J2.out⟩
set_option maxRecDepth 100000 in
set_option maxHeartbeats 1000000 in
theorem rwNext_7 {X : Nat → Prop} {m s t d : Nat} {bs r out res : List UInt8} {w0 w : World} (h : JsTo X m s t d (bs ++ r) out w0 w) (ht : TypeIs bs 7)
    (hK : ∀ w1, JsTo X m s t d (bs ++ r) out w0 w1 → Calls Tryz.prog 54 #[.iface 49 (.pointer (some ⟨t, 0, none⟩)), .pointer (some ⟨m, 0, none⟩)] w1 (JPost X m s t d r res w0)) :
    Calls Tryz.prog 29 #[.iface 49 (.pointer (some ⟨t, 0, none⟩)), .pointer (some ⟨m, 0, none⟩)] w (JPost X m s t d r res w0) := by
  have J0 := hid h
  have HT := hid ht
  have HK := hid hK
  clear h ht hK
  go_enter Tryz.func29, Tryz.ntmps29
  go_wp2_with (first
    | (go_at_call 40; refine (HT.out _ _ _ _ _ _ _ _ _ J0.out).mono ?_; rintro e w1 ⟨rfl, h1⟩; have J1 := hid h1; clear h1)
    | (go_at_call 41; refine (defun_7 _).mono ?_; rintro e w' ⟨rfl, rfl⟩)
    | (go_at_call 54; refine (HK.out _ J1.out).mono ?_; rintro e w2 ⟨z, rfl, h2⟩; have J2 := hid h2; clear h2))
  go_ret2
  exact ⟨_, rfl, J2.out⟩
set_option maxRecDepth 100000 in
set_option maxHeartbeats 1000000 in
theorem rwNext_8 {X : Nat → Prop} {m s t d : Nat} {bs r out res : List UInt8} {w0 w : World} (h : JsTo X m s t d (bs ++ r) out w0 w) (ht : TypeIs bs 8)
    (hK : ∀ w1, JsTo X m s t d (bs ++ r) out w0 w1 → Calls Tryz.prog 55 #[.iface 49 (.pointer (some ⟨t, 0, none⟩)), .pointer (some ⟨m, 0, none⟩)] w1 (JPost X m s t d r res w0)) :
    Calls Tryz.prog 29 #[.iface 49 (.pointer (some ⟨t, 0, none⟩)), .pointer (some ⟨m, 0, none⟩)] w (JPost X m s t d r res w0) := by
  have J0 := hid h
  have HT := hid ht
  have HK := hid hK
  clear h ht hK
  go_enter Tryz.func29, Tryz.ntmps29
  go_wp2_with (first
    | (go_at_call 40; refine (HT.out _ _ _ _ _ _ _ _ _ J0.out).mono ?_; rintro e w1 ⟨rfl, h1⟩; have J1 := hid h1; clear h1)
    | (go_at_call 41; refine (defun_8 _).mono ?_; rintro e w' ⟨rfl, rfl⟩)
    | (go_at_call 55; refine (HK.out _ J1.out).mono ?_; rintro e w2 ⟨z, rfl, h2⟩; have J2 := hid h2; clear h2))
  go_ret2
  exact ⟨_, rfl, J2.out⟩
set_option maxRecDepth 100000 in
set_option maxHeartbeats 1000000 in
theorem rwNext_9 {X : Nat → Prop} {m s t d : Nat} {bs r out res : List UInt8} {w0 w : World} (h : JsTo X m s t d (bs ++ r) out w0 w) (ht : TypeIs bs 9)
    (hK : ∀ w1, JsTo X m s t d (bs ++ r) out w0 w1 → Calls Tryz.prog 56 #[.iface 49 (.pointer (some ⟨t, 0, none⟩)), .pointer (some ⟨m, 0, none⟩)] w1 (JPost X m s t d r res w0)) :
    Calls Tryz.prog 29 #[.iface 49 (.pointer (some ⟨t, 0, none⟩)), .pointer (some ⟨m, 0, none⟩)] w (JPost X m s t d r res w0) := by
  have J0 := hid h
  have HT := hid ht
  have HK := hid hK
  clear h ht hK
  go_enter Tryz.func29, Tryz.ntmps29
  go_wp2_with (first
    | (go_at_call 40; refine (HT.out _ _ _ _ _ _ _ _ _ J0.out).mono ?_; rintro e w1 ⟨rfl, h1⟩; have J1 := hid h1; clear h1)
    | (go_at_call 41; refine (defun_9 _).mono ?_; rintro e w' ⟨rfl, rfl⟩)
    | (go_at_call 56; refine (HK.out _ J1.out).mono ?_; rintro e w2 ⟨z, rfl, h2⟩; have J2 := hid h2; clear h2))
  go_ret2
  exact ⟨_, rfl, J2.out⟩
set_option maxRecDepth 100000 in
set_option maxHeartbeats 1000000 in
theorem rwNext_10 {X : Nat → Prop} {m s t d : Nat} {bs r out res : List UInt8} {w0 w : World} (h : JsTo X m s t d (bs ++ r) out w0 w) (ht : TypeIs bs 10)
    (hK : ∀ w1, JsTo X m s t d (bs ++ r) out w0 w1 → Calls Tryz.prog 57 #[.iface 49 (.pointer (some ⟨t, 0, none⟩)), .pointer (some ⟨m, 0, none⟩)] w1 (JPost X m s t d r res w0)) :
    Calls Tryz.prog 29 #[.iface 49 (.pointer (some ⟨t, 0, none⟩)), .pointer (some ⟨m, 0, none⟩)] w (JPost X m s t d r res w0) := by
  have J0 := hid h
  have HT := hid ht
  have HK := hid hK
  clear h ht hK
  go_enter Tryz.func29, Tryz.ntmps29
  go_wp2_with (first
    | (go_at_call 40; refine (HT.out _ _ _ _ _ _ _ _ _ J0.out).mono ?_; rintro e w1 ⟨rfl, h1⟩; have J1 := hid h1; clear h1)
    | (go_at_call 41; refine (defun_10 _).mono ?_; rintro e w' ⟨rfl, rfl⟩)
    | (go_at_call 57; refine (HK.out _ J1.out).mono ?_; rintro e w2 ⟨z, rfl, h2⟩; have J2 := hid h2; clear h2))
  go_ret2
  exact ⟨_, rfl, J2.out⟩
end Go.Proofs.YtbgckolcimlofaaGreatDoor
