/-
  A law of walking: the first operations of a drawing region in any order, the rest as a list; for regions that pass the checks that it names.
-/
import Derived.Test.YtbgckolcimlofaaGreatDoorProg
import Derived.OrdersHeld
import Derived.StillTail
import Derived.Deep.RegionHeld3
set_option linter.unusedVariables false
set_option linter.unusedSimpArgs false
namespace Go.Proofs.YtbgckolcimlofaaGreatDoor
open Go

section
variable {P : Program} {ops : Array Oper} {md : Region.Mode} {Q : Exit → Act → World → Prop} {S : World → Prop}
/-- The first n operations of a region in whatever order, S behind each of them; then L. -/
def Ahd (P : Program) (md : Region.Mode) (ops : Array Oper) (Q : Exit → Act → World → Prop) (S : World → Prop) (n : Nat) (L : Array Bool → Act → World → Prop) : Nat → Array Bool → Act → World → Prop
  | 0, listed, a, w => L listed a w
  | f + 1, listed, a, w => Region.ready md ops listed ≠ [] ∧ ∀ i ∈ Region.ready md ops listed, i < n ∧ wpOp P ops Q i (fun a' w' => S w' ∧ Ahd P md ops Q S n L f (listed.setIfInBounds i true) a' w') a w
theorem Ahd.any {n g : Nat} {L : Array Bool → Act → World → Prop} (hL : ∀ listed a w, L listed a w → wpAny P md ops Q g listed a w) :
    ∀ (f : Nat) (listed : Array Bool) (a : Act) (w : World), Ahd P md ops Q S n L f listed a w → wpAny P md ops Q (f + g) listed a w
  | 0, listed, a, w, h => by rw [Nat.zero_add]; exact hL _ _ _ h
  | f + 1, listed, a, w, h => by
    rw [show f + 1 + g = (f + g) + 1 by omega]
    exact ⟨fun h0 => absurd h0 h.1, fun i hi => wpOp_mono (fun a' w' h' => Ahd.any hL f _ a' w' h'.2) (h.2 i hi).2⟩
/-- One of them first, that yields its value wherever S holds. -/
theorem Ahd.first {n i : Nat} {oi : Oper} {v : Value} {L : Array Bool → Act → World → Prop} (hi : ops[i]? = some oi) (hsel : ∀ (j : Nat) (o : Oper) cs b, ops[j]? = some o → o.op ≠ .select cs b)
    (hs : Region.sinkB md ops n = true) (hc : Region.chainB md ops n = true) (hn : n < ops.size) (hin : i < n)
    (hdone : ∀ listed a w, L listed a w → ∀ j ∈ Region.ready md ops listed, n ≤ j)
    (hQ : ∀ c a w, Q (.panic c) (a.put oi.dst v) w → Q (.panic c) a w) :
    ∀ (f : Nat) (listed : Array Bool) (a : Act) (w : World), HeadInv md ops n listed →
      (∀ j oj, ops[j]? = some oj → j ≠ i → listed.getD j true = false → (∀ e ∈ oj.after, Region.binds md e = true → e.on ≠ i) → oi.apart ops oj = true) →
      i ∈ Region.ready md ops listed → YieldsIf P ops S oi v a → S w →
      Ahd P md ops Q S n L f (listed.setIfInBounds i true) (a.put oi.dst v) w → Ahd P md ops Q S n L (f + 1) listed a w := by
  intro f
  induction f with
  | zero =>
    intro listed a w inv _ hr hy hS H
    have hun := (mem_ready.1 hr).1
    refine ⟨fun h => (by rw [h] at hr; cases hr), fun j hj => ?_⟩
    have hjn : j < n := by
      rcases Nat.lt_or_ge j n with h | h
      · exact h
      · exact absurd hj (tail_waits hs hc hn inv _ i rfl hin hun j h)
    refine ⟨hjn, ?_⟩
    by_cases hji : j = i
    · subst hji; exact hy.wpOp hi hS ⟨hS, H⟩
    · have := hdone _ _ _ H j (ready_mono hj hji)
      omega
  | succ f ih =>
    intro listed a w inv hfree hr hy hS H
    have hun := (mem_ready.1 hr).1
    refine ⟨fun h => (by rw [h] at hr; cases hr), fun j hj => ?_⟩
    have hjn : j < n := by
      rcases Nat.lt_or_ge j n with h | h
      · exact h
      · exact absurd hj (tail_waits hs hc hn inv _ i rfl hin hun j h)
    refine ⟨hjn, ?_⟩
    by_cases hji : j = i
    · subst hji; exact hy.wpOp hi hS ⟨hS, H⟩
    · have h1 := (H.2 j (ready_mono hj hji)).2
      obtain ⟨hjun, oj, hoj, hall⟩ := mem_ready.1 hj
      have hnot : ∀ e ∈ oj.after, Region.binds md e = true → e.on ≠ i := fun e he hb heq => by
        have h1 := hall e he hb
        rw [heq, getD_both hun] at h1
        cases h1
      have h2 := wpOp_putIf hoj (hfree j oj hoj hji hjun hnot) (fun cs b => hsel i oi cs b hi) (fun cs b => hsel j oj cs b hoj) hQ hy h1
      have hfree' : ∀ k ok, ops[k]? = some ok → k ≠ i → (listed.setIfInBounds j true).getD k true = false →
          (∀ e ∈ ok.after, Region.binds md e = true → e.on ≠ i) → oi.apart ops ok = true := fun k ok hk hki hkun hno => by
        refine hfree k ok hk hki ?_ hno
        by_cases hjk : j = k
        · subst hjk; exact hjun
        · rw [getD_set_ne true hjk] at hkun; exact hkun
      refine wpOp_mono (fun a' w' h3 => ⟨h3.2.1, ih (listed.setIfInBounds j true) a' w' (inv.set hj hjn) hfree' (ready_mono hr (Ne.symm hji)) h3.1 h3.2.1 ?_⟩) h2
      rw [Array.setIfInBounds_comm _ _ hji]
      exact h3.2.2
/-- What a region must be for that. -/
structure OkH (md : Region.Mode) (ops : Array Oper) (n : Nat) : Prop where
  sel : Region.noSelect ops = true
  sink : Region.sinkB md ops n = true
  chain : Region.chainB md ops n = true
  lt : decide (n < ops.size) = true
/-- What is left behind the first n: a list. -/
def Rest (P : Program) (md : Region.Mode) (l : List Oper) (Q : Exit → Act → World → Prop) (n : Nat) (listed : Array Bool) (a : Act) (w : World) : Prop :=
  Region.seqB md l.toArray (l.drop n).length n listed = true ∧ wpList P l.toArray Q (l.drop n) a w
def AhdI (P : Program) (md : Region.Mode) (l : List Oper) (Q : Exit → Act → World → Prop) (S : World → Prop) (n f : Nat) (listed : Array Bool) (a : Act) (w : World) : Prop :=
  HeadInv md l.toArray n listed → Ahd P md l.toArray Q S n (Rest P md l Q n) f listed a w
theorem AhdI.take {l : List Oper} {n i f : Nat} {oi : Oper} {v : Value} {listed : Array Bool} {a : Act} {w : World} (ok : OkH md l.toArray n) (hi : l.toArray[i]? = some oi) (hin : (i < n) = True) (hf : Region.free md l.toArray listed i = true) (hr : (Region.ready md l.toArray listed).contains i = true)
    (hQ : ∀ c a w, Q (.panic c) (a.put oi.dst v) w → Q (.panic c) a w) (hS : S w) (hy : YieldsIf P l.toArray S oi v a) (h : AhdI P md l Q S n f (listed.setIfInBounds i true) (a.put oi.dst v) w) : AhdI P md l Q S n (f + 1) listed a w := by
  intro inv
  have hr' : i ∈ Region.ready md l.toArray listed := by simpa using hr
  have hin' : i < n := of_eq_true hin
  exact Ahd.first hi (Region.noSelect_spec ok.sel) ok.sink ok.chain (of_decide_eq_true ok.lt) hin' (fun listed' a' w' hL => seqB_ready hL.1) hQ f listed a w inv (Region.free_spec hi hf) hr' hy hS (h (inv.set hr' hin'))
theorem AhdI.one {l : List Oper} {n i f : Nat} {o : Oper} {listed : Array Bool} {a : Act} {w : World} (hi : l.toArray[i]? = some o) (hin : (i < n) = True) (hr : Region.ready md l.toArray listed = [i])
    (h : ∀ K' : Act → World → Prop, (∀ a w, S w → AhdI P md l Q S n f (listed.setIfInBounds i true) a w → K' a w) → if Region.wanted o (yielded l.toArray a.tmps) = true then Oper.wp P o a w K' Q else K' (a.put o.dst undef) w) : AhdI P md l Q S n (f + 1) listed a w := by
  intro inv
  have hin' : i < n := of_eq_true hin
  have hri : i ∈ Region.ready md l.toArray listed := by rw [hr]; exact List.mem_singleton.2 rfl
  refine ⟨by rw [hr]; simp, fun j hj => ?_⟩
  rw [hr] at hj
  have : j = i := by simpa using hj
  subst this
  exact ⟨hin', wpOp_step hi (fun K' hK => h K' fun a w hS hA => hK a w ⟨hS, hA (inv.set hri hin')⟩)⟩
theorem AhdI.done {l : List Oper} {n : Nat} {listed : Array Bool} {a : Act} {w : World} (hb : Region.seqB md l.toArray (l.drop n).length n listed = true) (h : wpList P l.toArray Q (l.drop n) a w) : AhdI P md l Q S n 0 listed a w := fun _ => ⟨hb, h⟩
theorem wp_region_ahd {l : List Oper} (n : Nat) (S : World → Prop) {id : Nat} {a : Act} {w : World} (hm : P.follows .mixedOrders = true) (ok : OkH .any l.toArray n) (hS : S w.drew)
    (h : S w.drew → OkH .any l.toArray n → AhdI P .any l Q S n n (Array.replicate l.toArray.size false) a w.drew) : (Code.region id l.toArray true).wp P Q a w := by
  refine wp_region_any hm ?_
  have inv0 : HeadInv .any l.toArray n (Array.replicate l.toArray.size false) :=
    ⟨by simp, fun j oj _ hl => (by rw [getD_replicate_false] at hl; cases hl), fun t _ ht => getD_in (by simpa using ht) (getD_replicate_false _ _)⟩
  have hlt := of_decide_eq_true ok.lt
  have e : l.toArray.size = n + (l.drop n).length := by
    simp at hlt ⊢
    omega
  have H := Ahd.any (g := (l.drop n).length) (fun listed a w (hL : Rest P .any l Q n listed a w) => wpAny_of_seq (l.drop n) n listed a w (fun j => by simp) hL.1 hL.2) n _ _ _ (h hS ok inv0)
  have e2 : (Array.replicate l.toArray.size false) = Array.replicate (n + (l.drop n).length) false := by rw [e]
  rw [e]
  rw [e] at H
  exact H
end
end Go.Proofs.YtbgckolcimlofaaGreatDoor
