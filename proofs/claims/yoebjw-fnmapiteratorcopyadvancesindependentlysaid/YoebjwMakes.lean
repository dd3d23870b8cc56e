/-
  WHAT THE LAWS MAKE: cloneKeys (a fresh copy of the keys), ZZnewMapIterator (a map that is filled and a struct round it).
-/
import Derived.Test.YoebjwIter
namespace Go.Proofs.Yoebjw
open Go.RowKit Go.Maps

/-- The clone of the keys: no key at all; or block kb is a row of its own that holds them. -/
def KeysAt (w : World) (a : Option Addr) (ss : List ByteArray) : Prop :=
  ss.length = 0 ∨ ∃ kb, a = some ⟨kb, 0, none⟩ ∧ w.rowIs kb 9 ss.length (fun i => .string (ss.getD i ByteArray.empty))

theorem KeysAt.strs {w : World} {a : Option Addr} {ss : List ByteArray} (h : KeysAt w a ss) : StrsAt w a ss := by
  intro i hi
  rcases h with h | ⟨kb, rfl, h⟩
  · omega
  · exact ⟨kb, 0, rfl, by rw [Nat.zero_add]; exact h.cell hi⟩

theorem KeysAt.kept {w w' : World} {a : Option Addr} {ss : List ByteArray} (h : KeysAt w a ss) (hg : w.grownBy w' none) : KeysAt w' a ss := by
  rcases h with h | ⟨kb, rfl, h⟩
  · exact .inl h
  · exact .inr ⟨kb, rfl, h.of_block (hg.block kb h.lt (by simp))⟩

/-- Whatever happens to an iterator's block: it is none of the keys'. -/
theorem KeysAt.keptIter {w w' : World} {a : Option Addr} {ss : List ByteArray} (h : KeysAt w a ss) {b : Nat} {mb : Option Nat} {ka : Option Addr} {len cap : Nat} {i : Int} (hb : IterAt w b mb ka len cap i) (hg : w.grownBy w' (some b)) : KeysAt w' a ss := by
  rcases h with h | ⟨kb, rfl, h⟩
  · exact .inl h
  · refine .inr ⟨kb, rfl, h.of_block (hg.block kb h.lt ?_)⟩
    intro e
    cases e
    obtain ⟨c, hc, _⟩ := h
    obtain ⟨c', hc', _⟩ := hb
    rw [hc] at hc'
    cases hc'

theorem Ebjg.info9 : (Ebjg.prog.info? 9).map (fun i => (i.zero, i.size, i.bytes)) = some (some (.string ByteArray.empty), 1, 16) := by kernel_rfl

theorem eql_nil (a : Option Addr) (n c n' c' : Nat) (w : World) : (binOp .eql 22 (.slice a n c) (.slice none n' c')).run Ebjg.prog w = .ok (.bool a.isNone) w := Lib.run_eql_slice_nil w _ _ a n c n' c' Ebjg.underlying22

set_option maxHeartbeats 400000 in
theorem clone_nil (cap : Nat) (w : World) :
    Calls Ebjg.prog 11 #[.slice none 0 cap] w fun e w' => e = .returned (.slice none 0 0) ∧ w' = w := by
  have hq := eql_nil
  go_enter Ebjg.func11, Ebjg.ntmps11
  go_wp2
  go_ret
  exact ⟨rfl, rfl⟩

set_option maxHeartbeats 400000 in
theorem clone_zero (x : Addr) (cap : Nat) (w : World) :
    Calls Ebjg.prog 11 #[.slice (some x) 0 cap] w fun e w' => (∃ a c, e = .returned (.slice a 0 c)) ∧ w.grownBy w' none := by
  have hq := eql_nil
  have hmk : ∀ w, (Instr.makeSlice 22 (.int .i64 0) (.int .i64 0)).run Ebjg.prog w = .ok (.slice (some ⟨w.heap.size, 0, none⟩) 0 0) (w.alloc (.cells #[] 9)) := fun _ => by kernel_rfl
  go_enter Ebjg.func11, Ebjg.ntmps11
  go_wp2
  go_loop [4] (fun i => i = .int .i64 0) (fun _ => 0)
  case atStart => rfl
  case round =>
    subst hrel
    go_wp2
    go_ret
    exact ⟨⟨_, _, rfl⟩, World.grownBy_alloc _ _ _⟩

/-- After k rounds: the first k keys have been copied. -/
def partKeys (ss : List ByteArray) (k : Nat) (j : Nat) : Value := if j < k then .string (ss.getD j ByteArray.empty) else .string ByteArray.empty

theorem rowIs_partKeys {w : World} {B len : Nat} {ss : List ByteArray} {k : Nat} {v : Value} (hv : v = .string (ss.getD k ByteArray.empty)) (h : w.rowIs B 9 len (partKeys ss k)) : (w.setCell ⟨B, k, none⟩ v).rowIs B 9 len (partKeys ss (k + 1)) := by
  refine (h.set k v).congr fun j _ => ?_
  unfold partKeys
  by_cases e : j = k
  · subst e; simp [hv]
  · rw [if_neg e]
    by_cases e2 : j < k
    · rw [if_pos e2, if_pos (by omega)]
    · rw [if_neg e2, if_neg (by omega)]

theorem grown_setNew {w w1 : World} (h : w.grownBy w1 none) {a : Addr} (ha : w.heap.size ≤ a.block) (v : Value) : w.grownBy (w1.setCell a v) none :=
  ⟨h.os, h.tape, h.output, by have := h.size; simpa [World.setCell] using this, fun k hk hn => (Below.heap_setCell w1 a v k (by omega)).trans (h.block k hk hn)⟩

set_option maxHeartbeats 400000 in
theorem clone_some (b off len cap : Nat) (ss : List ByteArray) (w : World) (hm : len ≤ 1048576) 
    (hc : ∀ i, i < len → w.cell? ⟨b, off + i, none⟩ = some (.string (ss.getD i ByteArray.empty))) :
    Calls Ebjg.prog 11 #[.slice (some ⟨b, off, none⟩) len cap] w fun e w' => e = .returned (.slice (some ⟨w.heap.size, 0, none⟩) len len) ∧ w'.rowIs w.heap.size 9 len (partKeys ss len) ∧ w.grownBy w' none := by
  have hq := eql_nil
  have hmk := run_make_row' (P := Ebjg.prog) 22 9 (.string ByteArray.empty) 16 Ebjg.underlying22 Ebjg.info9 rfl .i64 .i64 len (by omega) (by omega)
  go_enter Ebjg.func11, Ebjg.ntmps11
  go_wp2
  go_loopw [4] (fun i wr => ∃ k : Nat, k ≤ len ∧ i = .int .i64 k ∧ wr.rowIs w.heap.size 9 len (partKeys ss k) ∧ w.grownBy wr none) (fun i _ => len - (intOf i).toNat)
  case atStart => exact ⟨0, Nat.zero_le _, rfl, (World.rowIs_made w _ len 9).congr (fun j _ => by simp [partKeys]), World.grownBy_alloc _ _ _⟩
  case round =>
    obtain ⟨k, hk, rfl, hrow, hgr⟩ := hrel
    by_cases hlt : k < len
    · have hcell := hgr.cell (hc k hlt) (by simp)
      have hcB := hrow.cell hlt
      have hfB := hrow.frozen k
      obtain ⟨v3, hv3⟩ : ∃ v3, partKeys ss k k = .string v3 := ⟨ByteArray.empty, by simp [partKeys]⟩
      rw [hv3] at hcB
      clear hv3
      have hlt' : (k : Int) < (len : Int) := by omega
      go_wp2
      go_roundw
      case rel => exact ⟨k + 1, by omega, by go_num, rowIs_partKeys rfl hrow, grown_setNew hgr (Nat.le_refl _) _⟩
      case measure => simp [intOf]; omega
    · have e : k = len := by omega
      subst e
      clear hlt
      go_wp2
      go_ret
      exact ⟨rfl, hrow, hgr⟩

/-- cloneKeys, whatever the keys. -/
theorem clone_any (a : Option Addr) (cap : Nat) (ss : List ByteArray) (w : World) (hs : StrsAt w a ss) (hm : ss.length ≤ 1048576) :
    Calls Ebjg.prog 11 #[.slice a ss.length cap] w fun e w' => ∃ a' c', e = .returned (.slice a' ss.length c') ∧ KeysAt w' a' ss ∧ w.grownBy w' none := by
  rcases hs.split with h0 | ⟨hp, b, off, rfl, hc⟩
  · rw [h0]
    cases a with
    | none =>
      refine (clone_nil cap w).mono ?_
      rintro e w' ⟨rfl, rfl⟩
      exact ⟨_, _, rfl, .inl h0, World.grownBy.refl _ _⟩
    | some x =>
      refine (clone_zero x cap w).mono ?_
      rintro e w' ⟨⟨a', c', rfl⟩, hg⟩
      exact ⟨_, _, rfl, .inl h0, hg⟩
  · refine (clone_some b off ss.length cap ss w hm hc).mono ?_
    rintro e w' ⟨rfl, hr, hg⟩
    exact ⟨_, _, rfl, .inr ⟨_, rfl, hr.congr fun j hj => by simp [partKeys, hj]⟩, hg⟩

end Go.Proofs.Yoebjw
