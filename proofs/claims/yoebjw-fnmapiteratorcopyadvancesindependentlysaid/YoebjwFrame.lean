/-
  FROM A WALK TO ITS ROW: what the five laws' proofs share: a slice of strings that came in, told to the walk as cells.
-/
import Derived.Test.YoebjwAid
import Derived.ProofKit
import Derived.ChangeOld
import Derived.SliceStrings
namespace Go.Proofs.Yoebjw
open Go.ChangeShapes Go.WideShapes Go.ChangeAt Go.RowKit

theorem Ebjg.own : ownKnob Ebjg.prog.godebug = none := by kernel_rfl
theorem Ebjg.laidOut : laidOutB Ebjg.prog = true := by kernel_rfl
theorem Ebjg.cells9 : Ebjg.prog.cellsOf 9 = 1 := by kernel_rfl

/-- What is known of the keys that came in. -/
def KeysIn (W : World) (a : Option Addr) (len : Nat) (ss : List ByteArray) : Prop :=
  len = ss.length ∧ StrsAt W a ss ∧ ∀ j, j < ss.length → (ss.getD j ByteArray.empty).size ≤ maxLen

theorem below_of_grown {w w' : World} (h : w.grownBy w' none) : Below w.heap.size w w' := ⟨h.os, h.tape, h.output, h.size, fun k hk => h.block k hk (by simp)⟩

theorem keys_in {H : Type} {enc : TypeId × Value → H} {W : World} {base : Nat} {sp : Nat → Bool} {held : Bool} {a : Option Addr} {len cap : Nat} {d : DataW H} {ps : List MemPlace} {fuel : Nat}
    (hf : DataW.trod enc Ebjg.prog W base sp held fuel 22 (Value.slice a len cap).cells.toList = some (d, ps)) : ∃ ss, KeysIn W a len ss := by
  rcases open_strings Ebjg.underlying22 Ebjg.underlying9 Ebjg.cells9 hf with ⟨hcs, _⟩ | ⟨x, l, c, ss, hcs, _, hl, hm, hz, _, hcell, hws⟩
  · simp [Value.cells] at hcs
    obtain ⟨rfl, rfl, rfl⟩ := hcs
    exact ⟨[], rfl, fun i hi => absurd hi (by simp), fun i hi => absurd hi (by simp)⟩
  · simp [Value.cells] at hcs
    obtain ⟨rfl, rfl, rfl⟩ := hcs
    have hlz : len ≤ ss.length := by rw [hz]; split <;> omega
    have ht : (ss.take len).length = len := by simp; omega
    have hg : ∀ i, i < len → (ss.take len).getD i ByteArray.empty = ss.getD i ByteArray.empty := fun i hi => by simp [hi]
    refine ⟨ss.take len, ht.symm, fun i hi => ?_, fun i hi => ?_⟩
    · rw [ht] at hi
      rw [hg i hi]
      have hc := hcell i (by omega)
      obtain ⟨b, off, spot⟩ := x
      have hspot : spot = none := by simpa [Addr.add] using World.cell?_spot (hcell 0 (by omega))
      subst hspot
      exact ⟨b, off, rfl, by rw [← add_plain]; exact hc⟩
    · rw [ht] at hi
      rw [hg i hi]
      have hi' : i < ss.length := by omega
      have e : ss.getD i ByteArray.empty = ss[i] := by simp [hi']
      rw [e]
      exact hws _ (List.getElem_mem hi')

end Go.Proofs.Yoebjw
