/-
  drainMatches: an iterator that stands at p is drained: it yields just keys[p:].
-/
import Derived.Test.YoebjwAid
import Derived.LaidEqlPtr
namespace Go.Proofs.Yoebjw
open Go.RowKit Go.Maps

theorem grown_row {a b c : World} {r : Nat} (h : a.grownBy b (some r)) (k : b.grownBy c (some r)) : a.grownBy c (some r) :=
  ⟨k.os.trans h.os, k.tape.trans h.tape, k.output.trans h.output, Nat.le_trans h.size k.size, fun j hj hn => (k.block j (Nat.lt_of_lt_of_le hj h.size) hn).trans (h.block j hj hn)⟩
theorem grown_row_none {a b c : World} {r : Nat} (h : a.grownBy b (some r)) (k : b.grownBy c none) : a.grownBy c (some r) :=
  ⟨k.os.trans h.os, k.tape.trans h.tape, k.output.trans h.output, Nat.le_trans h.size k.size, fun j hj hn => (k.block j (Nat.lt_of_lt_of_le hj h.size) (by simp)).trans (h.block j hj hn)⟩

theorem fields_any (b : Nat) (mb : Option Nat) (ka : Option Addr) (len cap : Nat) (i : Int) (w : World) (h : IterAt w b mb ka len cap i) :
    Calls Ebjg.prog 22 #[.pointer (some ⟨b, 0, none⟩)] w fun e w' => e = .returned (.tuple #[.slice ka len cap, .int .i64 i, .int .i64 len]) ∧ w.grownBy w' none := by
  refine (fields_core b (.slice ka len cap) i len w h.c1 h.c2 h.c3).mono ?_
  rintro e w' ⟨rfl, n, rfl⟩
  exact ⟨rfl, grown_drewN w n⟩

theorem Ebjg.size47 : (Ebjg.prog.info? 47).map (fun i => i.size) = some 4 := by kernel_rfl
/-- Two iterators are two pointers. -/
theorem ptr_other {w : World} {b b' : Nat} {mb mb' : Option Nat} {ka ka' : Option Addr} {len len' cap cap' : Nat} {i i' : Int} (h : IterAt w b mb ka len cap i) (h' : IterAt w b' mb' ka' len' cap' i') (hne : b ≠ b') :
    (binOp .eql 26 (.pointer (some ⟨b, 0, none⟩)) (.pointer (some ⟨b', 0, none⟩))).run Ebjg.prog w = .ok (.bool false) w := by
  obtain ⟨j, hj, hs⟩ := Option.map_eq_some_iff.1 Ebjg.size47
  obtain ⟨c, hc, _⟩ := h
  obtain ⟨c', hc', _⟩ := h'
  exact run_eql_ptr_other w Ebjg.underlying26 hj (by omega) (fun e => hne (by cases e; rfl)) hc hc'

set_option maxHeartbeats 1000000 in
theorem drain_core (it : Nat) (mb : Option Nat) (ka : Option Addr) (len kc p : Nat) (ss : List ByteArray) (w : World) (HL : Hid (len = ss.length)) (hl : len ≤ 65536) (hp : p ≤ len) (hit0 : IterAt w it mb ka len kc p) (hk0 : KeysAt w ka ss) :
    Calls Ebjg.prog 23 #[.pointer (some ⟨it, 0, none⟩), .slice ka len kc, .int .i64 p] w fun e w' => e = .returned (.bool true) ∧ IterAt w' it mb ka len kc ((len : Int) + 1) ∧ KeysAt w' ka ss ∧ w.grownBy w' (some it) := by
  have Hi := putBy hit0
  have Hk := putBy hk0
  clear hit0 hk0
  go_enter Ebjg.func23, Ebjg.ntmps23
  go_wp2_with fail
  go_loopw [7] (fun n wr => ∃ k : Nat, p + k ≤ len ∧ n = .int .i64 k ∧ IterAt wr it mb ka len kc ((p : Int) + k) ∧ KeysAt wr ka ss ∧ w.grownBy wr (some it)) (fun n _ => len - (intOf n).toNat)
  case atStart => exact ⟨0, by omega, rfl, by simpa using Hi.out, Hk.out, World.grownBy.refl _ _⟩
  case round =>
    clear Hi Hk
    obtain ⟨k, hk, rfl, hit, hks, hg⟩ := hrel
    go_wp2_with fail
    by_cases hlt : p + k < len
    · refine (next_yes it mb ka len kc _ _ hit (by omega) (by omega) (by omega)).mono ?_
      rintro e w4 ⟨rfl, hit4, hg4⟩
      have hk4 := hks.keptIter hit hg4
      have hgr4 := grown_row hg hg4
      clear hit hks hg hg4
      rcases hk4 with h0 | ⟨kb, rfl, hrow⟩
      · have := HL.out; omega
      rw [← HL.out] at hrow
      have c1 := hit4.c1
      have c2 := hit4.c2
      have ck := hrow.cell hlt
      obtain ⟨s, hs⟩ : ∃ s, s = ss.getD (p + k) ByteArray.empty := ⟨_, rfl⟩
      rw [← hs] at ck
      clear hs
      have hlt' : (p : Int) + (k : Int) < (len : Int) := by omega
      have h0 : 0 ≤ (p : Int) + (k : Int) := by omega
      have hwr := wrap_small ((p : Int) + (k : Int)) (by omega) (by omega)
      have htn : ((p : Int) + (k : Int)).toNat = p + k := by omega
      go_wp2_with fail
      go_region_with (go_at_call 15; refine (zzkey_any it kb len kc (p + k) ((p : Int) + k + 1) s _ ?_ ?_ ?_ hlt hl ?_).mono ?_; (exact c1); (exact c2); (omega); (exact ck); rintro e w6 ⟨rfl, hg6⟩; have ck6 := hg6.cell ck (by simp))
      all_goals
        have hit6 := (hit4.kept (grown_of_drewN (n := 1) hg6) (by simp)).moved (j := (p : Int) + ((k + 1 : Nat) : Int)) (by omega)
        have hrow6 : KeysAt w6 (some ⟨kb, 0, none⟩) ss := .inr ⟨kb, rfl, by rw [← HL.out]; exact hrow.of_block (hg6.block kb hrow.lt (by simp))⟩
        have hgr6 := grown_row_none hgr4 (grown_of_drewN (n := 1) hg6)
        clear hit4 hrow hg6 hgr4 ck ck6 c1 c2
        go_wp2
        go_roundw
        case rel => exact ⟨k + 1, by omega, by go_num, hit6, hrow6, hgr6⟩
        case measure => simp [intOf]; omega
    · refine (next_no it mb ka len kc _ _ hit (by omega) (by omega) (by omega)).mono ?_
      rintro e w4 ⟨rfl, hit4, hg4⟩
      have hk4 := hks.keptIter hit hg4
      have hgr4 := grown_row hg hg4
      have hit5 := hit4.moved (j := (len : Int) + 1) (by omega)
      clear hit hks hg hg4 hit4
      go_wp2
      go_ret
      exact ⟨ret_bool (beq_iff_eq.2 (by omega)), hit5, hk4, hgr4⟩

end Go.Proofs.Yoebjw
