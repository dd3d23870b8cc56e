/-
  SMALL FACTS that the five laws' walks share.
-/
import Derived.Test.YoebjwNew
import Derived.Deep.RegionWith
namespace Go.Proofs.Yoebjw
open Go.RowKit Go.Maps

theorem grown_trans {a b c : World} (h : a.grownBy b none) (k : b.grownBy c none) : a.grownBy c none :=
  ⟨k.os.trans h.os, k.tape.trans h.tape, k.output.trans h.output, Nat.le_trans h.size k.size, fun j hj hn => (k.block j (Nat.lt_of_lt_of_le hj h.size) hn).trans (h.block j hj hn)⟩
theorem grown_of_drewN {w w' : World} {n : Nat} (h : (w.drewN n).grownBy w' none) : w.grownBy w' none := ⟨h.os, h.tape, h.output, h.size, h.block⟩
theorem grown_drewN (w : World) (n : Nat) : w.grownBy (w.drewN n) none := ⟨rfl, rfl, rfl, Nat.le_refl _, fun _ _ _ => rfl⟩

theorem ret_bool {x : Bool} (h : x = true) : Ending.returned (.bool x) = .returned (.bool true) := by rw [h]
theorem wrap_small (x : Int) (h0 : 0 ≤ x) (h1 : x ≤ 1099511627776) : IntKind.i64.wrap x = x := by
  rw [IntKind.wrap_i64]; omega
theorem IterAt.moved {w : World} {b : Nat} {mb : Option Nat} {ka : Option Addr} {len cap : Nat} {i j : Int} (h : IterAt w b mb ka len cap i) (e : i = j) : IterAt w b mb ka len cap j := e ▸ h
theorem putBy {p : Prop} (h : p) : Hid p := h

end Go.Proofs.Yoebjw
