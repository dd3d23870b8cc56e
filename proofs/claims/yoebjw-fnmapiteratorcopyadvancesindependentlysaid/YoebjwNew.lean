/-
  ZZnewMapIterator: a map of the keys is made and filled, and a struct is laid round it.
-/
import Derived.Test.YoebjwMakes
import Derived.StringKeys
namespace Go.Proofs.Yoebjw
open Go.RowKit Go.Maps

/-- Nothing is asked of the map's elements. -/
def anyElem (_ : Value) : Option (DataW Unit × List MemPlace) := some (.lit (.bool true), [])
/-- Block mb is a map keyed by strings, of at most n entries. -/
def MapAt (w : World) (mb n : Nat) : Prop := ∃ D, w.ownsMap Ebjg.prog 9 anyElem mb n D
theorem Ebjg.law9 : Keyed Ebjg.prog 9 := string_keyed Ebjg.underlying9

theorem make_map (n : Int) (w : World) : (Instr.makeMap 37 (some (.int .i64 n))).run Ebjg.prog w = .ok (.map (some w.heap.size)) (w.alloc (.map #[] 0)) := by
  simp [Instr.makeMap, run_underlying Ebjg.underlying37, asInt, asIntOf, Result.andThen]

theorem grown_map {w w1 w2 : World} {mb : Nat} (h : w.grownBy w1 none) (k : w1.grownBy w2 (some mb)) (hm : w.heap.size ≤ mb) : w.grownBy w2 none :=
  ⟨k.os.trans h.os, k.tape.trans h.tape, k.output.trans h.output, Nat.le_trans h.size k.size, fun j hj hn => (k.block j (Nat.lt_of_lt_of_le hj h.size) (fun e => by cases e; omega)).trans (h.block j hj hn)⟩
theorem grown_alloc' {w w1 : World} (h : w.grownBy w1 none) (o : Obj) : w.grownBy (w1.alloc o) none :=
  ⟨h.os, h.tape, h.output, by have := h.size; simp; omega, fun k hk hn => (Below.heap_alloc w1 o k (Nat.lt_of_lt_of_le hk h.size)).trans (h.block k hk hn)⟩

theorem iter_new (w : World) (mb : Option Nat) (a : Option Addr) (len cap : Nat) (i l : Int) (hl : l = len) (b : Nat) (hb : b = w.heap.size) : IterAt (w.alloc (.cells #[.map mb, .slice a len cap, .int .i64 i, .int .i64 l] 47)) b mb a len cap i := by
  subst hb; subst hl
  exact World.rowIs_alloc w #[.map mb, .slice a len cap, .int .i64 i, .int .i64 len] 47 _ (it_cells _ _ _ _)

/-- A new iterator has been handed back. -/
def NewIter (w : World) (a : Option Addr) (len cap : Nat) (i : Int) (e : Ending) (w' : World) : Prop :=
  ∃ it mb, e = .returned (.pointer (some ⟨it, 0, none⟩)) ∧ IterAt w' it (some mb) a len cap i ∧ w.heap.size ≤ it ∧ w.grownBy w' none

set_option maxHeartbeats 400000 in
theorem new_some (b off len cap : Nat) (ss : List ByteArray) (i : Int) (w : World) (hm : len ≤ 1048576) (hsz : ∀ j, j < len → (ss.getD j ByteArray.empty).size ≤ maxLen)
    (hc : ∀ i, i < len → w.cell? ⟨b, off + i, none⟩ = some (.string (ss.getD i ByteArray.empty))) :
    Calls Ebjg.prog 12 #[.slice (some ⟨b, off, none⟩) len cap, .int .i64 i] w fun e w' => NewIter w (some ⟨b, off, none⟩) len cap i e w' := by
  have hmm := make_map
  go_enter Ebjg.func12, Ebjg.ntmps12
  go_wp2
  go_loopw [13] (fun j wr => ∃ k : Nat, k ≤ len ∧ j = .int .i64 k ∧ (∃ D, wr.ownsMap Ebjg.prog 9 anyElem w.heap.size k D) ∧ w.grownBy wr none) (fun j _ => len - (intOf j).toNat)
  case atStart => exact ⟨0, Nat.zero_le _, rfl, ⟨_, World.ownsMap_made w _ _ _⟩, World.grownBy_alloc _ _ _⟩
  case round =>
    obtain ⟨k, hk, rfl, ⟨D, hown⟩, hgr⟩ := hrel
    by_cases hlt : k < len
    · have hcell := hgr.cell (hc k hlt) (by simp)
      obtain ⟨s, hs⟩ : ∃ s, s = ss.getD k ByteArray.empty := ⟨_, rfl⟩
      have hlen := hsz k hlt
      rw [← hs] at hcell hlen
      have HS : Hid (s = ss.getD k ByteArray.empty) := hs
      clear hs
      have hkey := WideMaps.keyOf_string_mk Ebjg.underlying9 hlen
      go_wp2_with (at_mapUpdate; refine wpList_mapUpdate_own _ rfl _ _ _ 37 rfl 9 45 Ebjg.law9 Ebjg.underlying37 anyElem w.heap.size k D rfl (hown.alloc _) (by unfold maxLen; omega) _ _ _ rfl rfl hkey _ [] rfl ?_; intro w1 hown1 hgrow1)
      go_wp2
      go_roundw
      case rel => exact ⟨k + 1, by omega, by go_num, ⟨_, hown1⟩, grown_map (grown_alloc' hgr _) hgrow1 (Nat.le_refl _)⟩
      case measure => simp [intOf]; omega
    · go_wp2
      go_ret
      exact ⟨wr.heap.size, w.heap.size, rfl, iter_new wr _ _ _ _ _ _ rfl _ rfl, hgr.size, grown_alloc' hgr _⟩

set_option maxHeartbeats 400000 in
theorem new_zero (a : Option Addr) (cap : Nat) (i : Int) (w : World) :
    Calls Ebjg.prog 12 #[.slice a 0 cap, .int .i64 i] w fun e w' => NewIter w a 0 cap i e w' := by
  have hmm := make_map
  go_enter Ebjg.func12, Ebjg.ntmps12
  go_wp2
  go_loop [13] (fun j => j = .int .i64 0) (fun _ => 0)
  case atStart => rfl
  case round =>
    subst hrel
    go_wp2
    go_ret
    exact ⟨w.heap.size + 1, w.heap.size, rfl, iter_new (w.alloc (.map #[] 0)) _ _ _ _ _ _ rfl _ (by simp), Nat.le_succ _, grown_alloc' (World.grownBy_alloc _ _ _) _⟩

/-- ZZnewMapIterator, whatever the keys. -/
theorem new_any (a : Option Addr) (cap : Nat) (ss : List ByteArray) (i : Int) (w : World) (hs : StrsAt w a ss) (hm : ss.length ≤ 1048576) (hsz : ∀ j, j < ss.length → (ss.getD j ByteArray.empty).size ≤ maxLen) :
    Calls Ebjg.prog 12 #[.slice a ss.length cap, .int .i64 i] w fun e w' => NewIter w a ss.length cap i e w' := by
  rcases hs.split with h0 | ⟨hp, b, off, rfl, hc⟩
  · rw [h0]; exact new_zero a cap i w
  · exact new_some b off ss.length cap ss i w hm hsz hc

end Go.Proofs.Yoebjw
