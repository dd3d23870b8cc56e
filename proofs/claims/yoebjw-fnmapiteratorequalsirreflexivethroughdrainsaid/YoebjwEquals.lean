/-
  FnMapIteratorEqualsIrreflexiveThroughDrain: the walk.
-/
import Derived.Test.YoebjwAid
namespace Go.Proofs.Yoebjw
open Go.RowKit Go.Maps

set_option maxHeartbeats 2000000 in
theorem equals_walk (a : Option Addr) (cap : Nat) (ss : List ByteArray) (i : Int) (w : World) (hs : StrsAt w a ss) (hsz : ∀ j, j < ss.length → (ss.getD j ByteArray.empty).size ≤ maxLen) :
    Calls Ebjg.prog 5 #[.slice a ss.length cap, .int .i64 i] w fun e w' => e = .returned (.bool true) ∧ w.grownBy w' none := by
  obtain ⟨len, hlen⟩ : ∃ len, len = ss.length := ⟨_, rfl⟩
  have q1 := zzb18_any a cap ss i w hs
  have q2 := bud_any a cap ss w hs
  have q3 := inc_any a cap ss w hs
  have q4 := fun n h => clone_any a cap ss (w.drewN n) hs h
  have q5 := fun a c W h h' => new_any a c ss i W h h' hsz
  rw [← hlen] at q1 q2 q3 q4 q5 ⊢
  have HL : Hid (len = ss.length) := hlen
  clear hlen
  have Q1 := putBy q1
  have Q2 := putBy q2
  have Q3 := putBy q3
  have Q4 := putBy q4
  have Q5 := putBy q5
  clear q1 q2 q3 q4 q5 hs hsz
  go_enter Ebjg.func5, Ebjg.ntmps5
  go_wp2_with fail
  refine Q1.out.mono ?_
  rintro e w1 ⟨⟨x, rfl⟩, rfl⟩
  cases x
  · go_wp2
    go_ret
    exact ⟨rfl, World.grownBy.refl _ _⟩
  by_cases hbig : (65536 : Int) < (len : Int)
  · go_wp2
    go_ret
    exact ⟨rfl, World.grownBy.refl _ _⟩
  go_wp2_with fail
  refine (Q2.out (by omega)).mono ?_
  rintro e w1 ⟨⟨x, rfl⟩, rfl⟩
  cases x
  · go_wp2
    go_ret
    exact ⟨rfl, World.grownBy.refl _ _⟩
  go_wp2_with fail
  refine (Q3.out (by omega)).mono ?_
  rintro e w1 ⟨⟨x, rfl⟩, n0, rfl⟩
  cases x
  · go_wp2
    go_ret
    exact ⟨rfl, grown_drewN _ _⟩
  by_cases hneg : i < 0
  · go_wp2
    go_ret
    exact ⟨rfl, grown_drewN _ _⟩
  by_cases hover : (len : Int) < i
  · go_wp2
    go_ret
    exact ⟨rfl, grown_drewN _ _⟩
  obtain ⟨p, rfl⟩ := Int.eq_ofNat_of_zero_le (by omega : 0 ≤ i)
  have hp : p ≤ len := by omega
  have hl : len ≤ 65536 := by omega
  clear hneg hover hbig Q1 Q2 Q3
  go_wp2_with fail
  refine (Q4.out n0 (by omega)).mono ?_
  rintro e w2 ⟨ka, kc, rfl, hkeys, hg2⟩
  have hgk : w1.grownBy w2 none := grown_of_drewN hg2
  clear hg2 Q4
  go_wp2_with fail
  refine (Q5.out ka kc w2 hkeys.strs (by omega)).mono ?_
  rintro e w3 ⟨it, mb, rfl, hit, hbase, hg3⟩
  have hk3 := hkeys.kept hg3
  have hg : w1.grownBy w3 none := grown_trans hgk hg3
  have hb : w1.heap.size ≤ it := Nat.le_trans hgk.size hbase
  clear hkeys hgk hbase hg3
  clear Q5
  go_wp2_with fail
  go_loopw [6] (fun n wr => ∃ k : Nat, p + k ≤ len ∧ n = .int .i64 k ∧ IterAt wr it (some mb) ka len kc ((p : Int) + k) ∧ KeysAt wr ka ss ∧ w1.grownBy wr none) (fun n _ => len - (intOf n).toNat)
  case atStart => exact ⟨0, by omega, rfl, by simpa using hit, hk3, hg⟩
  case round =>
    clear hit hk3 hg
    obtain ⟨k, hk, rfl, hit, hks, hg⟩ := hrel
    go_wp2_with (go_at_call 19; refine (zzequals_any _ _ _).mono ?_; rintro e w' ⟨rfl, rfl⟩)
    refine (zzcopy_any it (some mb) ka len kc _ _ hit).mono ?_
    rintro e w5 ⟨rfl, _, hg5⟩
    have hit5 := hit.kept hg5 (by simp)
    have hk5 := hks.kept hg5
    have hgr5 := grown_trans hg hg5
    clear hit hks hg hg5
    go_wp2_with (go_at_call 19; refine (zzequals_any _ _ _).mono ?_; rintro e w' ⟨rfl, rfl⟩)
    by_cases hlt : p + k < len
    · refine (next_yes it (some mb) ka len kc _ _ hit5 (by omega) (by omega) (by omega)).mono ?_
      rintro e w4 ⟨rfl, hit4, hg4⟩
      have hk4 := hk5.keptIter hit5 hg4
      have hgr4 : w1.grownBy w4 none := grown_map hgr5 hg4 hb
      clear hit5 hk5 hgr5 hg4
      rcases hk4 with h0 | ⟨kb, rfl, hrow⟩
      · have := HL.out; omega
      rw [← HL.out] at hrow
      have c1 := hit4.c1
      have c2 := hit4.c2
      have ck := hrow.cell hlt
      obtain ⟨s, hs⟩ : ∃ s, s = ss.getD (p + k) ByteArray.empty := ⟨_, rfl⟩
      rw [← hs] at ck
      clear hs
      have hlt' : (p : Int) + (k : Int) < (len : Int) := by omega
      have h0 : 0 ≤ (p : Int) + (k : Int) := by omega
      have hwr := wrap_small ((p : Int) + (k : Int)) (by omega) (by omega)
      have htn : ((p : Int) + (k : Int)).toNat = p + k := by omega
      go_wp2_with fail
      go_region_with (go_at_call 15; refine (zzkey_any it kb len kc (p + k) ((p : Int) + k + 1) s _ ?_ ?_ ?_ hlt hl ?_).mono ?_; (exact c1); (exact c2); (omega); (exact ck); rintro e w6 ⟨rfl, hg6⟩; have ck6 := hg6.cell ck (by simp))
      all_goals
        have hit6 := (hit4.kept (grown_of_drewN (n := 1) hg6) (by simp)).moved (j := (p : Int) + ((k + 1 : Nat) : Int)) (by omega)
        have hrow6 : KeysAt w6 (some ⟨kb, 0, none⟩) ss := .inr ⟨kb, rfl, by rw [← HL.out]; exact hrow.of_block (hg6.block kb hrow.lt (by simp))⟩
        have hgr6 := grown_trans hgr4 (grown_of_drewN (n := 1) hg6)
        clear hit4 hrow hg6 hgr4 ck ck6 c1 c2
        go_wp2
        go_roundw
        case rel => exact ⟨k + 1, by omega, by go_num, hit6, hrow6, hgr6⟩
        case measure => simp [intOf]; omega
    · refine (next_no it (some mb) ka len kc _ _ hit5 (by omega) (by omega) (by omega)).mono ?_
      rintro e w4 ⟨rfl, hit4, hg4⟩
      have hgr4 : w1.grownBy w4 none := grown_map hgr5 hg4 hb
      clear hit5 hk5 hgr5 hg4
      go_wp2_with (go_at_call 19; refine (zzequals_any _ _ _).mono ?_; rintro e w' ⟨rfl, rfl⟩)
      refine (zzcopy_any it (some mb) ka len kc _ _ hit4).mono ?_
      rintro e w6 ⟨rfl, _, hg6⟩
      have hgr6 := grown_trans hgr4 hg6
      clear hit4 hgr4 hg6
      go_wp2_with (go_at_call 19; refine (zzequals_any _ _ _).mono ?_; rintro e w' ⟨rfl, rfl⟩)
      go_ret
      exact ⟨ret_bool (beq_iff_eq.2 (by omega)), hgr6⟩

end Go.Proofs.Yoebjw
