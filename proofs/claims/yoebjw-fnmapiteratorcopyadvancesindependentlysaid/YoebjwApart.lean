/-
  FnMapIteratorCopyAdvancesIndependently: the walk.
-/
import Derived.Test.YoebjwDrain
namespace Go.Proofs.Yoebjw
open Go.RowKit Go.Maps

set_option maxHeartbeats 2000000 in
theorem apart_walk (a : Option Addr) (cap : Nat) (ss : List ByteArray) (i : Int) (j : Int) (w : World) (hs : StrsAt w a ss) (hsz : ∀ j, j < ss.length → (ss.getD j ByteArray.empty).size ≤ maxLen) :
    Calls Ebjg.prog 7 #[.slice a ss.length cap, .int .i64 i, .int .i64 j] w fun e w' => e = .returned (.bool true) ∧ w.grownBy w' none := by
  obtain ⟨len, hlen⟩ : ∃ len, len = ss.length := ⟨_, rfl⟩
  have q1 := zzb24_any a cap ss i j w hs
  have q2 := bud_any a cap ss w hs
  have q3 := inc_any a cap ss w hs
  have q4 := fun n h => clone_any a cap ss (w.drewN n) hs h
  have q5 := fun a c W h h' => new_any a c ss i W h h' hsz
  rw [← hlen] at q1 q2 q3 q4 q5 ⊢
  have HL : Hid (len = ss.length) := hlen
  clear hlen
  have Q1 := putBy q1
  have Q2 := putBy q2
  have Q3 := putBy q3
  have Q4 := putBy q4
  have Q5 := putBy q5
  clear q1 q2 q3 q4 q5 hs hsz
  go_enter Ebjg.func7, Ebjg.ntmps7
  go_wp2_with fail
  refine Q1.out.mono ?_
  rintro e w1 ⟨⟨x, rfl⟩, rfl⟩
  cases x
  · go_wp2
    go_ret
    exact ⟨rfl, World.grownBy.refl _ _⟩
  by_cases hbig : (65536 : Int) < (len : Int)
  · go_wp2
    go_ret
    exact ⟨rfl, World.grownBy.refl _ _⟩
  go_wp2_with fail
  refine (Q2.out (by omega)).mono ?_
  rintro e w1 ⟨⟨x, rfl⟩, rfl⟩
  cases x
  · go_wp2
    go_ret
    exact ⟨rfl, World.grownBy.refl _ _⟩
  go_wp2_with fail
  refine (Q3.out (by omega)).mono ?_
  rintro e w1 ⟨⟨x, rfl⟩, n0, rfl⟩
  cases x
  · go_wp2
    go_ret
    exact ⟨rfl, grown_drewN _ _⟩
  by_cases hneg : i < 0
  · go_wp2
    go_ret
    exact ⟨rfl, grown_drewN _ _⟩
  by_cases hover : (len : Int) < i
  · go_wp2
    go_ret
    exact ⟨rfl, grown_drewN _ _⟩
  by_cases hneg2 : j < 0
  · go_wp2
    go_ret
    exact ⟨rfl, grown_drewN _ _⟩
  by_cases hover2 : (65536 : Int) < j
  · go_wp2
    go_ret
    exact ⟨rfl, grown_drewN _ _⟩
  obtain ⟨p, rfl⟩ := Int.eq_ofNat_of_zero_le (by omega : 0 ≤ i)
  obtain ⟨t, rfl⟩ := Int.eq_ofNat_of_zero_le (by omega : 0 ≤ j)
  have ht : t ≤ 65536 := by omega
  have hp : p ≤ len := by omega
  have hl : len ≤ 65536 := by omega
  clear hneg hover hbig Q1 Q2 Q3 hneg2 hover2
  go_wp2_with fail
  refine (Q4.out n0 (by omega)).mono ?_
  rintro e w2 ⟨ka, kc, rfl, hkeys, hg2⟩
  have hgk : w1.grownBy w2 none := grown_of_drewN hg2
  clear hg2 Q4
  go_wp2_with fail
  refine (Q5.out ka kc w2 hkeys.strs (by omega)).mono ?_
  rintro e w3 ⟨it, mb, rfl, hit, hbase, hg3⟩
  have hk3 := hkeys.kept hg3
  have hg : w1.grownBy w3 none := grown_trans hgk hg3
  have hb : w1.heap.size ≤ it := Nat.le_trans hgk.size hbase
  clear hkeys hgk hbase hg3
  clear Q5
  go_wp2_with fail
  refine (zzcopy_any it (some mb) ka len kc _ _ hit).mono ?_
  rintro e w4 ⟨rfl, hct, hg4⟩
  have hlt0 := hit.lt
  have hk4 := hk3.kept hg4
  have hit4 := hit.kept hg4 (by simp)
  have hgr4 := grown_trans hg hg4
  have hb4 : w1.heap.size ≤ w3.heap.size := by omega
  clear hit hk3 hg hg4
  obtain ⟨ct, hcte⟩ : ∃ ct, ct = w3.heap.size := ⟨_, rfl⟩
  rw [← hcte] at hct hb4 hlt0 ⊢
  clear hcte
  go_wp2_with fail
  go_loopw [9] (fun n wr => ∃ k : Nat, k ≤ t ∧ n = .int .i64 k ∧ IterAt wr it (some mb) ka len kc p ∧ IterAt wr ct (some mb) ka len kc ((p : Int) + k) ∧ KeysAt wr ka ss ∧ w1.grownBy wr none) (fun n _ => t - (intOf n).toNat)
  case atStart => exact ⟨0, by omega, rfl, hit4, by simpa using hct, hk4, hgr4⟩
  case round =>
    clear hit4 hct hk4 hgr4
    obtain ⟨k, hk, rfl, hit, hct, hks, hg⟩ := hrel
    by_cases hlt : k < t
    · have hlt' : (k : Int) < (t : Int) := by omega
      go_wp2_with fail
      refine (next_any ct (some mb) ka len kc _ _ hct (by omega) (by omega)).mono ?_
      rintro e w5 ⟨rfl, hct5, hg5⟩
      have hit5 := hit.kept hg5 (by simp; omega)
      have hk5 := hks.keptIter hct hg5
      have hgr5 := grown_map hg hg5 hb4
      have hct6 := hct5.moved (j := (p : Int) + ((k + 1 : Nat) : Int)) (by omega)
      clear hit hct hks hg hg5 hct5
      go_wp2
      go_roundw
      case rel => exact ⟨k + 1, by omega, by go_num, hit5, hct6, hk5, hgr5⟩
      case measure => simp [intOf]; omega
    · have e : k = t := by omega
      subst e
      clear hlt
      go_wp2_with fail
      refine (fields_any it (some mb) ka len kc _ _ hit).mono ?_
      rintro e w5 ⟨rfl, hg5⟩
      have hit5 := hit.kept hg5 (by simp)
      have hct5 := hct.kept hg5 (by simp)
      have hk5 := hks.kept hg5
      have hgr5 := grown_trans hg hg5
      clear hit hct hks hg hg5
      go_wp2_with fail
      refine (fields_any ct (some mb) ka len kc _ _ hct5).mono ?_
      rintro e w6 ⟨rfl, hg6⟩
      have hit6 := hit5.kept hg6 (by simp)
      have hct6 := hct5.kept hg6 (by simp)
      have hk6 := hk5.kept hg6
      have hgr6 := grown_trans hgr5 hg6
      clear hit5 hct5 hk5 hgr5 hg6
      go_wp2_with fail
      refine (zzcopy_any ct (some mb) ka len kc _ _ hct6).mono ?_
      rintro e w7 ⟨rfl, hcc7, hg7⟩
      have hit7 := hit6.kept hg7 (by simp)
      have hk7 := hk6.kept hg7
      have hgr7 := grown_trans hgr6 hg7
      clear hit6 hct6 hk6 hgr6 hg7
      go_wp2_with fail
      refine (fields_any _ (some mb) ka len kc _ _ hcc7).mono ?_
      rintro e w8 ⟨rfl, hg8⟩
      have hit8 := hit7.kept hg8 (by simp)
      have hk8 := hk7.kept hg8
      have hgr8 := grown_trans hgr7 hg8
      clear hit7 hk7 hgr7 hg8 hcc7
      go_wp2_with fail
      refine (drain_core it (some mb) ka len kc p ss _ HL hl hp hit8 hk8).mono ?_
      rintro e w9 ⟨rfl, _, _, hg9⟩
      have hgr9 := grown_map hgr8 hg9 hb
      clear hit8 hk8 hgr8 hg9
      go_wp2
      go_ret
      exact ⟨rfl, hgr9⟩

end Go.Proofs.Yoebjw
