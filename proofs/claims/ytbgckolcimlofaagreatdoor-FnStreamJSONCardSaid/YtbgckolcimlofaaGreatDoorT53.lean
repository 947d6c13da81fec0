/-
  THE STATEMENT: FnStreamJSON returns true for every input, the input reads as it did (the row), and the tied card; no conditions of its own.
-/
import Derived.Test.YtbgckolcimlofaaGreatDoorCards
import Derived.Test.YtbgckolcimlofaaGreatDoorTie
import Derived.WalkKit
import Derived.ProofKit
import Derived.OpenShut
import Derived.OpenVars
import Derived.LaidMore
import Derived.Lay
import Derived.SevenTiedAt
import Derived.Stop.Joined
import Derived.Test.YtbgckolcimlofaaGreatDoorT52
set_option linter.unusedVariables false
set_option linter.unusedSimpArgs false
namespace Go.Proofs.YtbgckolcimlofaaGreatDoor
open Go.ChangeShapes Go.WideShapes Go.ChangeAt Go.RowKit Go.Proofs.YtbgckolcimlofaaGreatDoor

theorem own : ownKnob Tryz.prog.godebug = none := by kernel_rfl
theorem laidOut : laidOutB Tryz.prog = true := by kernel_rfl
theorem under4 : Tryz.prog.underlying 4 = some .bool := by kernel_rfl
theorem under22 : Tryz.prog.underlying 22 = some (.int .u64) := by kernel_rfl
theorem params : Tryz.f3.params.toList = [25, 22] := by kernel_rfl
/-- The neutral element: an empty Pack. -/
def nothing : Value := .agg #[.int .i64 0, .int .u64 0, .string ⟨#[]⟩, .int .i64 0, .slice none 0 0]

set_option maxRecDepth 100000 in
theorem lifted (os : Os) (started : os.Started) (H : Type) (enc : TypeId × Value → H) :
    ReturnsInHanded {} Tryz.checked os 3 .any (fun w args => (Rows.fnStreamJSONSpec.pre enc Tryz.prog Tryz.f3 Rows.fnStreamJSONRow.domain false w args ∧ laidMetH Tryz.prog Rows.fnStreamJSONRow.laid w) ∧ sizedMet enc Tryz.prog Tryz.f3 (OpenSpec.ofChange Rows.fnStreamJSONSpec) false w args)
      (Rows.fnStreamJSONSpec.post enc Tryz.prog Tryz.f3 false true false false) := by
  refine returnsInHanded_of_change_and (C := Tryz.checked) (X := fun w _ => laidMetH Tryz.prog Rows.fnStreamJSONRow.laid w) (fun _ _ _ hh h => h.of_heap hh) own started (by kernel_rfl) Tryz.func3
    (ChangeSpec.witness_shaped (enc := enc) (C := Tryz.checked) (os := os) (X := fun w _ => laidMetH Tryz.prog Rows.fnStreamJSONRow.laid w) false (World.laidAll Tryz.prog os Rows.fnStreamJSONRow.laid) #[nothing, .int .u64 0] 8 (World.laidAll_os _ _ _)
      (World.shaped_of_ZipB (by kernel_rfl) (by kernel_rfl)) (by kernel_rfl) (by kernel_rfl) (by kernel_rfl)
      (by rw [MakeChecks.laidMetH_plain _ _ _ (by kernel_rfl)]; exact laidMet_laidAll _ (by kernel_rfl) (by kernel_rfl))) ?_
  intro W base args ds gs before hval0 hW hc _ hL _
  have hval : ∀ (j : Nat) t v, Tryz.f3.params.toList[j]? = some t → args[j]? = some v → Value.okWide Tryz.prog W .any base t v := fun j t v h => hval0 j t v (by rw [← Array.getElem?_toList]; exact h)
  have hW' := hW
  obtain ⟨p, q, hA0, hV, rfl, _, _⟩ := hW
  have hA : DataW.TrodAll enc Tryz.prog W 0 (fun _ => true) true Tryz.f3.params.toList args.toList ds p := hA0
  rw [params] at hA hval
  obtain ⟨v0, v1, d0, d1, p0, p1, rfl, rfl, rfl, h0, h1⟩ := trodAll_two hA
  have k0 := h0
  obtain ⟨cs, rfl, -⟩ := okWide_struct (fs := #[{ name := "Kind", type := 3, offset := 0, embedded := false, tag := "", pkgPath := "", byteOffset := 0 }, { name := "Num", type := 22, offset := 1, embedded := false, tag := "", pkgPath := "", byteOffset := 8 },
    { name := "Text", type := 9, offset := 2, embedded := false, tag := "", pkgPath := "", byteOffset := 16 }, { name := "Ext", type := 3, offset := 3, embedded := false, tag := "", pkgPath := "", byteOffset := 32 },
    { name := "Kids", type := 23, offset := 4, embedded := false, tag := "", pkgPath := "", byteOffset := 40 }]) (by kernel_rfl) (hval 0 25 v0 rfl rfl)
  obtain ⟨f, rfl, rfl, rfl, wf⟩ := open_int under22 (hval 1 22 v1 rfl rfl) h1
  have hf := bounds_u64 wf
  obtain ⟨n, hn⟩ := k0
  obtain ⟨pk, hpk⟩ := pack_of n _ _ hn
  have hlt : ∀ x ∈ p0, x.block < W.heap.size := fun x hx => hW'.lt x (by simp [hx])
  have walk : Calls Tryz.prog 3 #[.agg cs, .int .u64 f] W (LawPost W) := fnStream pk cs.toList W.heap.size W f hf.1 (by omega) hpk (Nat.le_refl _) (env hL)
  refine walk.mono fun e W' ⟨he, ho⟩ => ?_
  subst he
  have hb : Below W.heap.size W W' := ho.below (Nat.le_refl _) (fun _ _ h => h)
  have hV' : DataW.TrodVars enc Tryz.prog W' (fun b => decide (b < W.heap.size)) Rows.fnStreamJSONSpec.vars gs q := hb.trodVars laidOut (by kernel_rfl) hV
  obtain ⟨g1, g2, g3, rfl⟩ : ∃ g1 g2 g3, gs = [g1, g2, g3] := by
    match gs, hV with
    | [g1, g2, g3], _ => exact ⟨g1, g2, g3, rfl⟩
  exact ⟨_, rfl, _, _, _, [], p0 ++ [], q, hW', trodAll_mk1 (shut_bool under4 _), trodAll_mk2 (Below.trod laidOut (by kernel_rfl) (of_decide_eq_true (by kernel_rfl)) h0 hb hlt) (shut_int under22 wf), hV', hb.frame _, fun h => by cases h⟩

theorem rowHolds : Rows.FnStreamJSONSaid :=
  OpenClaim.holds_of_wide 3 Tryz.f3 rfl rfl rfl rfl rfl rfl rfl ⟨rfl, rfl, rfl, rfl, rfl⟩ rfl rfl rfl rfl rfl (by kernel_rfl) Tryz.func3 (by kernel_rfl)
    (of_decide_eq_true (by kernel_rfl)) (by unfold Func.isWrapper; first | (rw [if_pos (by decide +kernel)]; kernel_rfl) | (rw [if_neg (by decide +kernel)]; exact ⟨rfl, rfl⟩))
    (fun os started H enc _ => lifted os started H enc)

/-- ████ THE CARD ████ -/
theorem streamJSON_holds : Rows.FnStreamJSONCardSaid :=
  Claim7.holds_tied_plain_at .later [] _ _ _ _ rowHolds (fun _ h => by cases h) (by kernel_rfl) (fun _ h => by cases h) fnStreamJSON_row_tie rfl ⟨rfl, rfl⟩ (by kernel_rfl) rfl
    (fun f fn hf hfn => by
      obtain rfl : f = 3 := Option.some.inj ((show Tryz.prog.funcNamed "given.example/pub-saddlebag/laws.FnStreamJSON" = some 3 by kernel_rfl).symm.trans hf) |>.symm
      obtain rfl : fn = Tryz.f3 := (Option.some.inj (Tryz.func3.symm.trans hfn)).symm
      exact ⟨by kernel_rfl, fun j t ht => by
        have ht : Tryz.f3.params.toList[j]? = some t := by rw [Array.getElem?_toList]; exact ht
        rw [params] at ht
        have hm : t ∈ [25, 22] := List.mem_of_getElem? ht
        have hall : ([25, 22].all fun u => !Tryz.prog.wantsStandIn u) = true := by kernel_rfl
        exact (show Tryz.prog.wantsStandIn t = false by simpa using List.all_eq_true.1 hall t hm)⟩)
    (by kernel_rfl)
end Go.Proofs.YtbgckolcimlofaaGreatDoor
