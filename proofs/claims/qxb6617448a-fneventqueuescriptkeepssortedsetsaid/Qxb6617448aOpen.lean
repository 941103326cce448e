/- The arguments opened (seat b6617448a). -/
import Derived.Test.Qxb6617448aBase
import Derived.ProofKit
import Derived.OpenShut
import Derived.ShutString
import Derived.ChangeOld
import Derived.Below
import Derived.Deep.Slices
import Derived.Lib.SmallJoins
namespace Go.Proofs.Qxb6617448a
open Go.ChangeShapes Go.WideShapes Go.ChangeAt Go.RowKit Go.Deep Go.Joins

section
variable {H : Type} {enc : TypeId × Value → H} {w : World} {held : Bool}

theorem cells2 : Try.prog.cellsOf 2 = 1 := by kernel_rfl

/-- Numbers that came in. -/
theorem openNums {n : Nat} {cs : List Value} {x : DataW H × List MemPlace} (h : DataW.trod enc Try.prog w 0 (fun _ => true) held n 22 cs = some x) : ∃ v ds, cs = [v] ∧ Reads w v (nums ds) := by
  rcases open_ints Try.underlying22 Try.underlying2 cells2 h with ⟨hcs, _⟩ | ⟨a, l, c, zs, hcs, _, hl, hm, hz, _, hcell, _⟩
  · exact ⟨_, [], hcs, .inl ⟨rfl, rfl⟩⟩
  · simp at hz
    have hlen : (nums (zs.take l)).length = l := by rw [nums_len, List.length_take]; omega
    refine ⟨_, zs.take l, hcs, .inr ⟨a, c, by rw [hlen], by omega, fun hne => ?_⟩⟩
    have hl0 : 0 < l := by
      rcases Nat.eq_zero_or_pos l with h | h
      · subst h; simp [nums] at hne
      · exact h
    obtain ⟨b, off, spot⟩ := a
    have hspot : spot = none := by simpa [Addr.add] using World.cell?_spot (hcell 0 (by omega))
    subst hspot
    refine ⟨b, off, rfl, fun i hi => ?_⟩
    rw [hlen] at hi
    have := hcell i (by omega)
    rw [Addr.add_lit] at this
    rw [this]
    simp [nums, List.getD_eq_getElem?_getD, List.getElem?_eq_getElem (show i < zs.length by omega)]
end
end Go.Proofs.Qxb6617448a
