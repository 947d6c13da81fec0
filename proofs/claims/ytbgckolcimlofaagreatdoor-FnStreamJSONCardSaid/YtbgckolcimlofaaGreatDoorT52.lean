/-
  The library variables hold what the row lists; from the list of the row.
  What reads as a pack is told by its cells; no conditions.
-/
import Derived.Test.YtbgckolcimlofaaGreatDoorRows
import Derived.Stop.LaidErr
import Derived.Lib.LaidU8T
import Derived.Test.YtbgckolcimlofaaGreatDoorT51
import Derived.Test.YtbgckolcimlofaaGreatDoorT26
import Derived.WalkKit
import Derived.ProofKit
import Derived.OpenShut
set_option linter.unusedVariables false
set_option linter.unusedSimpArgs false
namespace Go.Proofs.YtbgckolcimlofaaGreatDoor
open Go.RowKit YtbgckolcimlofaaGreatDoorPj

theorem valid_of (w : World) (hT : Lib.Utf8Tabs 1 2 w) : ValidAt w := fun t w1 ho ht =>
  (Any.utf8_ValidString Tryz.lays196 t w1 (by omega) (utf8_only hT ho)).mono fun e w' ⟨he, hb⟩ => ⟨_, he, Only.of_below hb, fun h => h⟩
theorem dec_of (w : World) (hT : Lib.Utf8Tabs 1 2 w) : DecCall w := fun v bs hin h0 => by
  obtain ⟨A, c, rfl, hc1, hc2, hcell⟩ := hin
  obtain ⟨b, off, rfl, _, _⟩ := hcell 0 h0
  have hs : (⟨bs.toArray⟩ : ByteArray).size = bs.length := by show bs.toArray.size = _; simp
  have := Any7.utf8_DecodeRune Tryz.lays7n32 ⟨bs.toArray⟩ b off c w hT (fun j hj => by
    rw [hs] at hj
    obtain ⟨b', off', e, _, hc⟩ := hcell j hj
    injection e with e
    injection e with e1 e2
    subst e1 e2
    rw [hc]
    have h1 : (⟨bs.toArray⟩ : ByteArray).get! j = bs[j] := by
      show bs.toArray[j]! = bs[j]
      simp [hj]
    rw [h1]
    rfl)
  rw [hs] at this
  refine this.mono fun e w' ⟨he, hb⟩ => ⟨?_, Only.of_below hb⟩
  have h2 : Lib.decodeGo ⟨bs.toArray⟩ = Lib.decodeL bs := by
    unfold Lib.decodeGo Lib.decodeL
    rw [if_neg (by rw [hs]; omega)]
  rw [← h2]
  exact he
theorem tab_only {w w' : World} (h : TabAt w) (ho : Only (fun _ => False) w w') : TabAt w' := by
  unfold TabAt Lib.TabIs World.var? at h ⊢
  cases hg : Tryz.prog.globalNamed "internal/strconv.uint64pow10" with
  | none => simp [hg] at h
  | some g =>
    simp only [hg, Option.bind_some] at h ⊢
    have hlt : g < w.heap.size := by
      rcases Nat.lt_or_ge g w.heap.size with h' | h'
      · exact h'
      · simp [Array.getElem?_eq_none h'] at h
    rw [ho.block g hlt (fun e => e)]
    exact h
theorem env_of {w : World} (hT : Lib.Utf8Tabs 1 2 w) (ht : TabAt w) (he : ∃ v, EofAt w v) : Env w :=
  ⟨valid_of w hT, fun w' ho => ⟨tab_only ht ho, dec_of w' (utf8_only hT ho)⟩, he, hT⟩
end Go.Proofs.YtbgckolcimlofaaGreatDoor
namespace Go.Proofs.YtbgckolcimlofaaGreatDoor
open Go.Proofs.YtbgckolcimlofaaGreatDoor Go.RowKit
theorem extra : U8Extra Tryz.prog Tryz.lays196_ren := ⟨by kernel_rfl, by kernel_rfl, by kernel_rfl, by kernel_rfl, by kernel_rfl, by kernel_rfl, by kernel_rfl⟩
theorem first_eq : Rows.laid_unicode_utf8_first = Lib.firstData := by kernel_rfl
theorem accept_eq : (Rows.laid_unicode_utf8_acceptRanges : DataW Unit) = Lib.acceptData := by kernel_rfl
theorem pow_eq : (Rows.laid_internal_strconv_uint64pow10 : DataW Unit) = Lib.tabData .u64 Lib.pow10Tab := by kernel_rfl
theorem star225 : "*" ++ "errors.errorString" = "*errors.errorString" := by decide
theorem row225 (u : TypeId) (h : Tryz.prog.typeName? 3 u = some "*errors.errorString") : u = 225 :=
  typeName_ptr_named (nm := "errors.errorString") (by rw [star225]; kernel_rfl) (by kernel_rfl) (by decide) u (by rw [star225]; exact h)
theorem env {W : World} (hL : laidMetH Tryz.prog Rows.fnStreamJSONRow.laid W) : Env W := by
  have h : laidMet Tryz.prog Rows.fnStreamJSONRow.laid W := hL
  have h3 := h.tail.tail.tail
  have h4 := h3.tail
  have h5 := h4.tail
  have h12 := h5.tail.tail.tail.tail.tail.tail.tail
  refine env_of ?_ ?_ ?_
  · refine utf8Tabs_of_readsT (U8Types.of196 Tryz.lays196) extra ?_ ?_
    · have := Lib.laidMet.reads h12 (n := "unicode/utf8.first") (d := Rows.laid_unicode_utf8_first) (List.Mem.head _)
      rw [first_eq] at this
      exact this
    · have := Lib.laidMet.reads h4 (n := "unicode/utf8.acceptRanges") (d := Rows.laid_unicode_utf8_acceptRanges) (List.Mem.head _)
      rw [accept_eq] at this
      exact this
  · rw [pow_eq] at h3
    exact Lib.tabIs_of_head (g := 9) (t := 229) (e := 22) (n := 20) (by kernel_rfl) (by kernel_rfl) (by kernel_rfl) (by kernel_rfl) (by kernel_rfl) (by kernel_rfl) h3
  · obtain ⟨a, s, hv, hc, _, _⟩ := laid_sentinel (f := { name := "s", type := 9, offset := 0, embedded := false, tag := "", pkgPath := "errors", byteOffset := 0 }) (ms := #[("Error", 91)]) (g := 0) (ti := 44) (tp := 225) (te := 227) (ts := 9) h5 (by kernel_rfl) (by kernel_rfl) (by kernel_rfl) row225 (by kernel_rfl) (by kernel_rfl) rfl rfl (by kernel_rfl) (by kernel_rfl) (by kernel_rfl)
    exact ⟨_, by simpa using World.var?_cell (g := 0) (by kernel_rfl) hv 0, a, rfl⟩
end Go.Proofs.YtbgckolcimlofaaGreatDoor
namespace Go.Proofs.YtbgckolcimlofaaGreatDoor
open Go.RowKit Go.ChangeShapes Go.WideShapes Go.ChangeAt YtbgckolcimlofaaGreatDoorPj

theorem c25 : Tryz.prog.cellsOf 25 = 5 := by kernel_rfl
theorem c22 : Tryz.prog.cellsOf 22 = 1 := by kernel_rfl
theorem c3 : Tryz.prog.cellsOf 3 = 1 := by kernel_rfl
theorem c9 : Tryz.prog.cellsOf 9 = 1 := by kernel_rfl
theorem c23 : Tryz.prog.cellsOf 23 = 1 := by kernel_rfl
theorem len5 {α : Type} {l : List α} (h : l.length = 5) : ∃ a b c d e, l = [a, b, c, d, e] := by
  match l, h with
  | [a, b, c, d, e], _ => exact ⟨a, b, c, d, e, rfl⟩
theorem max_len : maxLen = 9223372036854775807 := by decide
/-- WHAT READS AS A PACK IS ONE. -/
theorem pack_of {H : Type} {enc : TypeId × Value → H} {W : World} {sp : Nat → Bool} :
    ∀ (n : Nat) (cs : List Value) (x : DataW H × List MemPlace), DataW.trod enc Tryz.prog W 0 sp true n 25 cs = some x → ∃ p, IsPack W W.heap.size p cs := by
  intro n
  induction n using Nat.strongRecOn with
  | _ n ih =>
  intro cs x h
  obtain ⟨xs, m, rfl, rfl, hl, hlen, hf⟩ := DataW.trod_struct (P := Tryz.prog) (t := 25) (fs := #[{ name := "Kind", type := 3, offset := 0, embedded := false, tag := "", pkgPath := "", byteOffset := 0 }, { name := "Num", type := 22, offset := 1, embedded := false, tag := "", pkgPath := "", byteOffset := 8 },
    { name := "Text", type := 9, offset := 2, embedded := false, tag := "", pkgPath := "", byteOffset := 16 }, { name := "Ext", type := 3, offset := 3, embedded := false, tag := "", pkgPath := "", byteOffset := 32 },
    { name := "Kids", type := 23, offset := 4, embedded := false, tag := "", pkgPath := "", byteOffset := 40 }]) (by kernel_rfl) h
  rw [c25] at hl
  obtain ⟨v0, v1, v2, v3, v4, rfl⟩ := len5 hl
  obtain ⟨x0, x1, x2, x3, x4, rfl⟩ := len5 (show xs.length = 5 from hlen)
  have f0 : DataW.trod enc Tryz.prog W 0 sp true m 3 [v0] = some x0 := by
    have := hf 0 { name := "Kind", type := 3, offset := 0, embedded := false, tag := "", pkgPath := "", byteOffset := 0 } rfl
    dsimp only at this
    rw [c3] at this
    exact this
  have f1 : DataW.trod enc Tryz.prog W 0 sp true m 22 [v1] = some x1 := by
    have := hf 1 { name := "Num", type := 22, offset := 1, embedded := false, tag := "", pkgPath := "", byteOffset := 8 } rfl
    dsimp only at this
    rw [c22] at this
    exact this
  have f2 : DataW.trod enc Tryz.prog W 0 sp true m 9 [v2] = some x2 := by
    have := hf 2 { name := "Text", type := 9, offset := 2, embedded := false, tag := "", pkgPath := "", byteOffset := 16 } rfl
    dsimp only at this
    rw [c9] at this
    exact this
  have f3 : DataW.trod enc Tryz.prog W 0 sp true m 3 [v3] = some x3 := by
    have := hf 3 { name := "Ext", type := 3, offset := 3, embedded := false, tag := "", pkgPath := "", byteOffset := 32 } rfl
    dsimp only at this
    rw [c3] at this
    exact this
  have f4 : DataW.trod enc Tryz.prog W 0 sp true m 23 [v4] = some x4 := by
    have := hf 4 { name := "Kids", type := 23, offset := 4, embedded := false, tag := "", pkgPath := "", byteOffset := 40 } rfl
    dsimp only at this
    rw [c23] at this
    exact this
  obtain ⟨k, e0, -, -⟩ := DataW.trod_int (k := .i64) (by kernel_rfl) f0
  obtain ⟨u, e1, -, hu⟩ := DataW.trod_int (k := .u64) (by kernel_rfl) f1
  obtain ⟨t, e2, -, ht⟩ := DataW.trod_string (by kernel_rfl) f2
  obtain ⟨z, e3, -, -⟩ := DataW.trod_int (k := .i64) (by kernel_rfl) f3
  obtain ⟨rfl⟩ := List.cons.inj e0 |>.1
  obtain ⟨rfl⟩ := List.cons.inj e1 |>.1
  obtain ⟨rfl⟩ := List.cons.inj e2 |>.1
  obtain ⟨rfl⟩ := List.cons.inj e3 |>.1
  have hu2 := bounds_u64 hu
  rw [max_len] at ht
  rcases DataW.trod_slice (e := 25) (by kernel_rfl) f4 with ⟨e4, -⟩ | ⟨⟨b, off, spot⟩, len, cap, elems, rest, m', rfl, e4, -, -, hle, hcap, hel, hE, -, -⟩
  · obtain ⟨rfl⟩ := List.cons.inj e4 |>.1
    exact ⟨.mk k u t z [], IsPk.mk k u t z [] none 0 (fun _ => []) (by simp) hu2.1 (by omega) ht (fun j hj => absurd hj (by simp)) (fun h => absurd h (by simp))⟩
  · obtain ⟨rfl⟩ := List.cons.inj e4 |>.1
    rw [max_len] at hcap
    simp only [c25] at hE
    have each : ∀ i, ∃ q c, i < len → IsPack W W.heap.size q c ∧ c.length = 5 ∧ ∀ j, j < 5 → W.cell? (((⟨b, off, spot⟩ : Addr).add (i * 5)).add j) = c[j]? := by
      intro i
      by_cases hi : i < len
      · have hEi := hE i hi
        rw [List.getElem?_eq_getElem (by omega), Option.bind_eq_some_iff] at hEi
        obtain ⟨c, hc, hy⟩ := hEi
        obtain ⟨-, hc5, hcc⟩ := World.cells?_some hc
        obtain ⟨q, hq⟩ := ih m' (by omega) c _ hy
        exact ⟨q, c, fun _ => ⟨hq, hc5, hcc⟩⟩
      · exact ⟨.mk 0 0 ⟨#[]⟩ 0 [], [], fun h => absurd h hi⟩
    let q : Nat → P := fun i => (each i).choose
    let c : Nat → List Value := fun i => (each i).choose_spec.choose
    have hq : ∀ i, i < len → IsPack W W.heap.size (q i) (c i) ∧ (c i).length = 5 ∧ ∀ j, j < 5 → W.cell? (((⟨b, off, spot⟩ : Addr).add (i * 5)).add j) = (c i)[j]? := fun i => (each i).choose_spec.choose_spec

    clear_value q c
    have hkl : ((List.range len).map q).length = len := by simp
    have hs : 0 < len → spot = none := fun h0 => by
      obtain ⟨-, h5, hc⟩ := hq 0 h0
      have := hc 0 (by omega)
      rw [List.getElem?_eq_getElem (by omega)] at this
      simpa [Addr.add] using World.cell?_spot this
    have := IsPk.mk (w := W) (ok := fun k => k < W.heap.size) k u t z ((List.range len).map q) (some ⟨b, off, spot⟩) cap c (by rw [hkl]; omega) hu2.1 (by omega) ht
      (fun j hj => by
        have : ((List.range len).map q)[j] = q j := by simp
        rw [this]
        exact (hq j (by rw [hkl] at hj; exact hj)).1)
      (fun h0 => by
        rw [hkl] at h0
        have := hs h0
        subst this
        have cell : ∀ j, j < len → ∀ i v, (c j)[i]? = some v → W.cell? ⟨b, off + (j * 5 + i), none⟩ = some v := fun j hj i v hv => by
          obtain ⟨-, h5, hc⟩ := hq j hj
          have hi : i < 5 := by
            have := (List.getElem?_eq_some_iff.1 hv).1
            omega
          have := hc i hi
          rw [hv] at this
          rw [add_plain, add_plain, Nat.add_assoc] at this
          exact this
        refine ⟨b, off, rfl, ?_, fun j hj => cell j (by rw [hkl] at hj; exact hj)⟩
        obtain ⟨-, h5, -⟩ := hq 0 h0
        exact World.block_lt_of_cell? W _ (cell 0 h0 0 _ (List.getElem?_eq_getElem (by omega : 0 < (c 0).length))))
    rw [hkl] at this
    exact ⟨_, this⟩
end Go.Proofs.YtbgckolcimlofaaGreatDoor
