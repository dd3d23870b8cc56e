/-
  FnMapIteratorCopyIsSamePositionAndKeys: the walk.
-/
import Derived.Test.YoebjwDrain
namespace Go.Proofs.Yoebjw
open Go.RowKit Go.Maps

set_option maxHeartbeats 2000000 in
theorem same_walk (a : Option Addr) (cap : Nat) (ss : List ByteArray) (i : Int) (w : World) (hs : StrsAt w a ss) (hsz : ∀ j, j < ss.length → (ss.getD j ByteArray.empty).size ≤ maxLen) :
    Calls Ebjg.prog 6 #[.slice a ss.length cap, .int .i64 i] w fun e w' => e = .returned (.bool true) ∧ w.grownBy w' none := by
  obtain ⟨len, hlen⟩ : ∃ len, len = ss.length := ⟨_, rfl⟩
  have q1 := zzb21_any a cap ss i w hs
  have q2 := bud_any a cap ss w hs
  have q3 := inc_any a cap ss w hs
  have q4 := fun n h => clone_any a cap ss (w.drewN n) hs h
  have q5 := fun a c W h h' => new_any a c ss i W h h' hsz
  rw [← hlen] at q1 q2 q3 q4 q5 ⊢
  have HL : Hid (len = ss.length) := hlen
  clear hlen
  have Q1 := putBy q1
  have Q2 := putBy q2
  have Q3 := putBy q3
  have Q4 := putBy q4
  have Q5 := putBy q5
  clear q1 q2 q3 q4 q5 hs hsz
  go_enter Ebjg.func6, Ebjg.ntmps6
  go_wp2_with fail
  refine Q1.out.mono ?_
  rintro e w1 ⟨⟨x, rfl⟩, rfl⟩
  cases x
  · go_wp2
    go_ret
    exact ⟨rfl, World.grownBy.refl _ _⟩
  by_cases hbig : (65536 : Int) < (len : Int)
  · go_wp2
    go_ret
    exact ⟨rfl, World.grownBy.refl _ _⟩
  go_wp2_with fail
  refine (Q2.out (by omega)).mono ?_
  rintro e w1 ⟨⟨x, rfl⟩, rfl⟩
  cases x
  · go_wp2
    go_ret
    exact ⟨rfl, World.grownBy.refl _ _⟩
  go_wp2_with fail
  refine (Q3.out (by omega)).mono ?_
  rintro e w1 ⟨⟨x, rfl⟩, n0, rfl⟩
  cases x
  · go_wp2
    go_ret
    exact ⟨rfl, grown_drewN _ _⟩
  by_cases hneg : i < 0
  · go_wp2
    go_ret
    exact ⟨rfl, grown_drewN _ _⟩
  by_cases hover : (len : Int) < i
  · go_wp2
    go_ret
    exact ⟨rfl, grown_drewN _ _⟩
  obtain ⟨p, rfl⟩ := Int.eq_ofNat_of_zero_le (by omega : 0 ≤ i)
  have hp : p ≤ len := by omega
  have hl : len ≤ 65536 := by omega
  clear hneg hover hbig Q1 Q2 Q3
  go_wp2_with fail
  refine (Q4.out n0 (by omega)).mono ?_
  rintro e w2 ⟨ka, kc, rfl, hkeys, hg2⟩
  have hgk : w1.grownBy w2 none := grown_of_drewN hg2
  clear hg2 Q4
  go_wp2_with fail
  refine (Q5.out ka kc w2 hkeys.strs (by omega)).mono ?_
  rintro e w3 ⟨it, mb, rfl, hit, hbase, hg3⟩
  have hk3 := hkeys.kept hg3
  have hg : w1.grownBy w3 none := grown_trans hgk hg3
  have hb : w1.heap.size ≤ it := Nat.le_trans hgk.size hbase
  clear hkeys hgk hbase hg3
  clear Q5
  go_wp2_with fail
  refine (zzcopy_any it (some mb) ka len kc _ _ hit).mono ?_
  rintro e w4 ⟨rfl, hct, hg4⟩
  have hlt0 := hit.lt
  have hit4 := hit.kept hg4 (by simp)
  have hk4 := hk3.kept hg4
  have hgr4 := grown_trans hg hg4
  have hb4 : w1.heap.size ≤ w3.heap.size := by omega
  clear hit hk3 hg hg4
  obtain ⟨ct, hcte⟩ : ∃ ct, ct = w3.heap.size := ⟨_, rfl⟩
  rw [← hcte] at hct hb4 hlt0 ⊢
  clear hcte
  have heq := ptr_other hct hit4 (by omega)
  clear hit4
  go_wp2_with fail
  clear heq
  refine (fields_any ct (some mb) ka len kc _ _ hct).mono ?_
  rintro e w5 ⟨rfl, hg5⟩
  have hct5 := hct.kept hg5 (by simp)
  have hk5 := hk4.kept hg5
  have hgr5 := grown_trans hgr4 hg5
  clear hct hk4 hgr4 hg5
  go_wp2_with fail
  go_loopw [10] (fun n wr => ∃ k : Nat, k ≤ len ∧ n = .int .i64 k ∧ IterAt wr ct (some mb) ka len kc p ∧ KeysAt wr ka ss ∧ w1.grownBy wr none) (fun n _ => len - (intOf n).toNat)
  case atStart => exact ⟨0, by omega, rfl, hct5, hk5, hgr5⟩
  case round =>
    clear hct5 hk5 hgr5
    obtain ⟨k, hk, rfl, hct, hks, hg⟩ := hrel
    by_cases hlt : k < len
    · have hlt' : (k : Int) < (len : Int) := by omega
      rcases hks with h0 | ⟨kb, rfl, hrow⟩
      · have := HL.out; omega
      rw [← HL.out] at hrow
      have ck := hrow.cell hlt
      obtain ⟨s, hs⟩ : ∃ s, s = ss.getD k ByteArray.empty := ⟨_, rfl⟩
      rw [← hs] at ck
      clear hs
      go_wp2
      go_quiet (fail)
      have hct6 := hct.kept (grown_drewN wr nq) (by simp)
      have hrow6 : KeysAt (wr.drewN nq) (some ⟨kb, 0, none⟩) ss := .inr ⟨kb, rfl, by rw [← HL.out]; exact hrow⟩
      have hgr6 := grown_trans hg (grown_drewN wr nq)
      clear hct hrow hg
      go_wp2
      go_roundw
      case rel => exact ⟨k + 1, by omega, by go_num, hct6, hrow6, hgr6⟩
      case measure => simp [intOf]; omega
    · have hlt' : ¬ (k : Int) < (len : Int) := by omega
      go_wp2_with fail
      refine (drain_core ct (some mb) ka len kc p ss _ HL hl hp hct hks).mono ?_
      rintro e w6 ⟨rfl, hct6, _, hg6⟩
      have hgr6 := grown_map hg hg6 hb4
      clear hct hks hg hg6
      go_wp2_with fail
      refine (next_no ct (some mb) ka len kc _ _ hct6 (by omega) (by omega) (by omega)).mono ?_
      rintro e w7 ⟨rfl, _, hg7⟩
      have hgr7 := grown_map hgr6 hg7 hb4
      clear hct6 hgr6 hg7
      go_wp2
      go_ret
      exact ⟨rfl, hgr7⟩

end Go.Proofs.Yoebjw
