/-
  The end of the data: a Read with nothing left answers io.EOF; where io.EOF is laid.
-/
import Derived.Test.YtbgckolcimlofaaGreatDoorProg
import Derived.Test.YtbgckolcimlofaaGreatDoorT07
set_option linter.unusedVariables false
set_option linter.unusedSimpArgs false
namespace Go.Proofs.YtbgckolcimlofaaGreatDoor
open Go.RowKit YtbgckolcimlofaaGreatDoorPj

/-- What io.EOF holds. -/
def EofAt (w : World) (v : Value) : Prop := w.cell? ⟨0, 0, none⟩ = some v ∧ ∃ p, v = .iface 225 (.pointer (some p))
theorem EofAt.only {w w' : World} {S : Nat → Prop} {v : Value} (h : EofAt w v) (ho : Only S w w') (hS : ¬ S 0) : EofAt w' v :=
  ⟨(ho.cell (World.block_lt_of_cell? w _ h.1) hS).trans h.1, h.2⟩
set_option maxRecDepth 100000 in
set_option maxHeartbeats 1000000 in
theorem dropsEnd (d dcap : Nat) (D : Option Addr) (p v : Value) (w : World) (c0 : w.cell? ⟨d, 0, none⟩ = some (.slice D 0 dcap)) (hv : EofAt w v) :
    Calls Tryz.prog 199 #[.pointer (some ⟨d, 0, none⟩), p] w (fun e w' => e = .returned (.tuple #[.int .i64 0, v]) ∧ Only (fun _ => False) w w') := by
  obtain ⟨g0, q, rfl⟩ := hv
  go_enter Tryz.func199, Tryz.ntmps199
  go_wp2
  go_quiet (fail)
  go_wp2
  go_ret2
  exact ⟨rfl, Only.drewN (Only.refl _ _) _⟩
end Go.Proofs.YtbgckolcimlofaaGreatDoor
