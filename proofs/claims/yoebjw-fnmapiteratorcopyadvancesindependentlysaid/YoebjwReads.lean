/-
  THE READERS of the five laws' roads: zzBytes_.. (five twins), budgetFits, increasing: each returns some bool; the first six leave the world as it was, the last draws.
-/
import Derived.Test.YoebjwRows
import Derived.WalkKit
import Derived.WalkSpells
import Derived.WalkLawsBesides
import Derived.Deep.QuietTactic
import Derived.BigQuiet
namespace Go.Proofs.Yoebjw
open Go.RowKit

/-- What a walk is told of a slice of strings: each element's cell. -/
def StrsAt (w : World) (a : Option Addr) (ss : List ByteArray) : Prop :=
  ∀ i, i < ss.length → ∃ b off, a = some ⟨b, off, none⟩ ∧ w.cell? ⟨b, off + i, none⟩ = some (.string (ss.getD i ByteArray.empty))

theorem StrsAt.split {w : World} {a : Option Addr} {ss : List ByteArray} (h : StrsAt w a ss) :
    ss.length = 0 ∨ (0 < ss.length ∧ ∃ b off, a = some ⟨b, off, none⟩ ∧ ∀ i, i < ss.length → w.cell? ⟨b, off + i, none⟩ = some (.string (ss.getD i ByteArray.empty))) := by
  rcases Nat.eq_zero_or_pos ss.length with h0 | h0
  · exact .inl h0
  · refine .inr ⟨h0, ?_⟩
    obtain ⟨b, off, rfl, _⟩ := h 0 h0
    refine ⟨b, off, rfl, fun i hi => ?_⟩
    obtain ⟨b', off', e, hc⟩ := h i hi
    cases e
    exact hc

/-- The call has returned a bool. -/
def RetBool (e : Ending) : Prop := ∃ x : Bool, e = .returned (.bool x)
theorem RetBool.mk (x : Bool) : RetBool (.returned (.bool x)) := ⟨x, rfl⟩

set_option maxHeartbeats 400000 in
theorem zzb8_some (b off len cap : Nat) (ss : List ByteArray) (i : Int) (w : World)
    (hc : ∀ i, i < len → w.cell? ⟨b, off + i, none⟩ = some (.string (ss.getD i ByteArray.empty))) :
    Calls Ebjg.prog 8 #[.slice (some ⟨b, off, none⟩) len cap, .int .i64 i] w fun e w' => RetBool e ∧ w' = w := by
  go_enter Ebjg.func8, Ebjg.ntmps8
  go_wp2
  · go_ret
    exact ⟨RetBool.mk _, rfl⟩
  · go_loop [5, 6] (fun n i => ∃ k : Nat, k ≤ len ∧ i = .int .i64 k ∧ ∃ z : Int, n = .int .i64 z) (fun _ i => len - (intOf i).toNat)
    case atStart => exact ⟨0, Nat.zero_le _, rfl, _, rfl⟩
    case round =>
      obtain ⟨k, hk, rfl, z, rfl⟩ := hrel
      by_cases hlt : k < len
      · have hcell := hc k hlt
        go_wp2
        · go_ret
          exact ⟨RetBool.mk _, rfl⟩
        · go_ret
          exact ⟨RetBool.mk _, rfl⟩
        · go_round
          case rel => exact ⟨k + 1, by omega, by go_num, _, rfl⟩
          case measure => simp [intOf]; omega
      · go_wp2
        go_ret
        exact ⟨RetBool.mk _, rfl⟩

set_option maxHeartbeats 400000 in
theorem zzb8_zero (a : Option Addr) (cap : Nat) (i : Int) (w : World) :
    Calls Ebjg.prog 8 #[.slice a 0 cap, .int .i64 i] w fun e w' => RetBool e ∧ w' = w := by
  go_enter Ebjg.func8, Ebjg.ntmps8
  go_wp2
  go_loop [5, 6] (fun n i => i = .int .i64 0 ∧ n = .int .i64 0) (fun _ _ => 0)
  case atStart => exact ⟨rfl, rfl⟩
  case round =>
    obtain ⟨rfl, rfl⟩ := hrel
    go_wp2
    go_ret
    exact ⟨RetBool.mk _, rfl⟩

theorem zzb8_any (a : Option Addr) (cap : Nat) (ss : List ByteArray) (i : Int) (w : World) (hs : StrsAt w a ss) :
    Calls Ebjg.prog 8 #[.slice a ss.length cap, .int .i64 i] w fun e w' => RetBool e ∧ w' = w := by
  rcases hs.split with h0 | ⟨_, b, off, rfl, hc⟩
  · rw [h0]; exact zzb8_zero a cap i w
  · exact zzb8_some b off ss.length cap ss i w hc

set_option maxHeartbeats 400000 in
theorem zzb16_some (b off len cap : Nat) (ss : List ByteArray) (i : Int) (w : World)
    (hc : ∀ i, i < len → w.cell? ⟨b, off + i, none⟩ = some (.string (ss.getD i ByteArray.empty))) :
    Calls Ebjg.prog 16 #[.slice (some ⟨b, off, none⟩) len cap, .int .i64 i] w fun e w' => RetBool e ∧ w' = w := by
  go_enter Ebjg.func16, Ebjg.ntmps16
  go_wp2
  · go_ret
    exact ⟨RetBool.mk _, rfl⟩
  · go_loop [5, 6] (fun n i => ∃ k : Nat, k ≤ len ∧ i = .int .i64 k ∧ ∃ z : Int, n = .int .i64 z) (fun _ i => len - (intOf i).toNat)
    case atStart => exact ⟨0, Nat.zero_le _, rfl, _, rfl⟩
    case round =>
      obtain ⟨k, hk, rfl, z, rfl⟩ := hrel
      by_cases hlt : k < len
      · have hcell := hc k hlt
        go_wp2
        · go_ret
          exact ⟨RetBool.mk _, rfl⟩
        · go_ret
          exact ⟨RetBool.mk _, rfl⟩
        · go_round
          case rel => exact ⟨k + 1, by omega, by go_num, _, rfl⟩
          case measure => simp [intOf]; omega
      · go_wp2
        go_ret
        exact ⟨RetBool.mk _, rfl⟩

set_option maxHeartbeats 400000 in
theorem zzb16_zero (a : Option Addr) (cap : Nat) (i : Int) (w : World) :
    Calls Ebjg.prog 16 #[.slice a 0 cap, .int .i64 i] w fun e w' => RetBool e ∧ w' = w := by
  go_enter Ebjg.func16, Ebjg.ntmps16
  go_wp2
  go_loop [5, 6] (fun n i => i = .int .i64 0 ∧ n = .int .i64 0) (fun _ _ => 0)
  case atStart => exact ⟨rfl, rfl⟩
  case round =>
    obtain ⟨rfl, rfl⟩ := hrel
    go_wp2
    go_ret
    exact ⟨RetBool.mk _, rfl⟩

theorem zzb16_any (a : Option Addr) (cap : Nat) (ss : List ByteArray) (i : Int) (w : World) (hs : StrsAt w a ss) :
    Calls Ebjg.prog 16 #[.slice a ss.length cap, .int .i64 i] w fun e w' => RetBool e ∧ w' = w := by
  rcases hs.split with h0 | ⟨_, b, off, rfl, hc⟩
  · rw [h0]; exact zzb16_zero a cap i w
  · exact zzb16_some b off ss.length cap ss i w hc

set_option maxHeartbeats 400000 in
theorem zzb18_some (b off len cap : Nat) (ss : List ByteArray) (i : Int) (w : World)
    (hc : ∀ i, i < len → w.cell? ⟨b, off + i, none⟩ = some (.string (ss.getD i ByteArray.empty))) :
    Calls Ebjg.prog 18 #[.slice (some ⟨b, off, none⟩) len cap, .int .i64 i] w fun e w' => RetBool e ∧ w' = w := by
  go_enter Ebjg.func18, Ebjg.ntmps18
  go_wp2
  · go_ret
    exact ⟨RetBool.mk _, rfl⟩
  · go_loop [5, 6] (fun n i => ∃ k : Nat, k ≤ len ∧ i = .int .i64 k ∧ ∃ z : Int, n = .int .i64 z) (fun _ i => len - (intOf i).toNat)
    case atStart => exact ⟨0, Nat.zero_le _, rfl, _, rfl⟩
    case round =>
      obtain ⟨k, hk, rfl, z, rfl⟩ := hrel
      by_cases hlt : k < len
      · have hcell := hc k hlt
        go_wp2
        · go_ret
          exact ⟨RetBool.mk _, rfl⟩
        · go_ret
          exact ⟨RetBool.mk _, rfl⟩
        · go_round
          case rel => exact ⟨k + 1, by omega, by go_num, _, rfl⟩
          case measure => simp [intOf]; omega
      · go_wp2
        go_ret
        exact ⟨RetBool.mk _, rfl⟩

set_option maxHeartbeats 400000 in
theorem zzb18_zero (a : Option Addr) (cap : Nat) (i : Int) (w : World) :
    Calls Ebjg.prog 18 #[.slice a 0 cap, .int .i64 i] w fun e w' => RetBool e ∧ w' = w := by
  go_enter Ebjg.func18, Ebjg.ntmps18
  go_wp2
  go_loop [5, 6] (fun n i => i = .int .i64 0 ∧ n = .int .i64 0) (fun _ _ => 0)
  case atStart => exact ⟨rfl, rfl⟩
  case round =>
    obtain ⟨rfl, rfl⟩ := hrel
    go_wp2
    go_ret
    exact ⟨RetBool.mk _, rfl⟩

theorem zzb18_any (a : Option Addr) (cap : Nat) (ss : List ByteArray) (i : Int) (w : World) (hs : StrsAt w a ss) :
    Calls Ebjg.prog 18 #[.slice a ss.length cap, .int .i64 i] w fun e w' => RetBool e ∧ w' = w := by
  rcases hs.split with h0 | ⟨_, b, off, rfl, hc⟩
  · rw [h0]; exact zzb18_zero a cap i w
  · exact zzb18_some b off ss.length cap ss i w hc

set_option maxHeartbeats 400000 in
theorem zzb21_some (b off len cap : Nat) (ss : List ByteArray) (i : Int) (w : World)
    (hc : ∀ i, i < len → w.cell? ⟨b, off + i, none⟩ = some (.string (ss.getD i ByteArray.empty))) :
    Calls Ebjg.prog 21 #[.slice (some ⟨b, off, none⟩) len cap, .int .i64 i] w fun e w' => RetBool e ∧ w' = w := by
  go_enter Ebjg.func21, Ebjg.ntmps21
  go_wp2
  · go_ret
    exact ⟨RetBool.mk _, rfl⟩
  · go_loop [5, 6] (fun n i => ∃ k : Nat, k ≤ len ∧ i = .int .i64 k ∧ ∃ z : Int, n = .int .i64 z) (fun _ i => len - (intOf i).toNat)
    case atStart => exact ⟨0, Nat.zero_le _, rfl, _, rfl⟩
    case round =>
      obtain ⟨k, hk, rfl, z, rfl⟩ := hrel
      by_cases hlt : k < len
      · have hcell := hc k hlt
        go_wp2
        · go_ret
          exact ⟨RetBool.mk _, rfl⟩
        · go_ret
          exact ⟨RetBool.mk _, rfl⟩
        · go_round
          case rel => exact ⟨k + 1, by omega, by go_num, _, rfl⟩
          case measure => simp [intOf]; omega
      · go_wp2
        go_ret
        exact ⟨RetBool.mk _, rfl⟩

set_option maxHeartbeats 400000 in
theorem zzb21_zero (a : Option Addr) (cap : Nat) (i : Int) (w : World) :
    Calls Ebjg.prog 21 #[.slice a 0 cap, .int .i64 i] w fun e w' => RetBool e ∧ w' = w := by
  go_enter Ebjg.func21, Ebjg.ntmps21
  go_wp2
  go_loop [5, 6] (fun n i => i = .int .i64 0 ∧ n = .int .i64 0) (fun _ _ => 0)
  case atStart => exact ⟨rfl, rfl⟩
  case round =>
    obtain ⟨rfl, rfl⟩ := hrel
    go_wp2
    go_ret
    exact ⟨RetBool.mk _, rfl⟩

theorem zzb21_any (a : Option Addr) (cap : Nat) (ss : List ByteArray) (i : Int) (w : World) (hs : StrsAt w a ss) :
    Calls Ebjg.prog 21 #[.slice a ss.length cap, .int .i64 i] w fun e w' => RetBool e ∧ w' = w := by
  rcases hs.split with h0 | ⟨_, b, off, rfl, hc⟩
  · rw [h0]; exact zzb21_zero a cap i w
  · exact zzb21_some b off ss.length cap ss i w hc

set_option maxHeartbeats 400000 in
theorem zzb24_some (b off len cap : Nat) (ss : List ByteArray) (i : Int) (j : Int) (w : World)
    (hc : ∀ i, i < len → w.cell? ⟨b, off + i, none⟩ = some (.string (ss.getD i ByteArray.empty))) :
    Calls Ebjg.prog 24 #[.slice (some ⟨b, off, none⟩) len cap, .int .i64 i, .int .i64 j] w fun e w' => RetBool e ∧ w' = w := by
  go_enter Ebjg.func24, Ebjg.ntmps24
  go_wp2
  · go_ret
    exact ⟨RetBool.mk _, rfl⟩
  · go_loop [7, 8] (fun n i => ∃ k : Nat, k ≤ len ∧ i = .int .i64 k ∧ ∃ z : Int, n = .int .i64 z) (fun _ i => len - (intOf i).toNat)
    case atStart => exact ⟨0, Nat.zero_le _, rfl, _, rfl⟩
    case round =>
      obtain ⟨k, hk, rfl, z, rfl⟩ := hrel
      by_cases hlt : k < len
      · have hcell := hc k hlt
        go_wp2
        · go_ret
          exact ⟨RetBool.mk _, rfl⟩
        · go_ret
          exact ⟨RetBool.mk _, rfl⟩
        · go_round
          case rel => exact ⟨k + 1, by omega, by go_num, _, rfl⟩
          case measure => simp [intOf]; omega
      · go_wp2
        go_ret
        exact ⟨RetBool.mk _, rfl⟩

set_option maxHeartbeats 400000 in
theorem zzb24_zero (a : Option Addr) (cap : Nat) (i : Int) (j : Int) (w : World) :
    Calls Ebjg.prog 24 #[.slice a 0 cap, .int .i64 i, .int .i64 j] w fun e w' => RetBool e ∧ w' = w := by
  go_enter Ebjg.func24, Ebjg.ntmps24
  go_wp2
  go_loop [7, 8] (fun n i => i = .int .i64 0 ∧ n = .int .i64 0) (fun _ _ => 0)
  case atStart => exact ⟨rfl, rfl⟩
  case round =>
    obtain ⟨rfl, rfl⟩ := hrel
    go_wp2
    go_ret
    exact ⟨RetBool.mk _, rfl⟩

theorem zzb24_any (a : Option Addr) (cap : Nat) (ss : List ByteArray) (i : Int) (j : Int) (w : World) (hs : StrsAt w a ss) :
    Calls Ebjg.prog 24 #[.slice a ss.length cap, .int .i64 i, .int .i64 j] w fun e w' => RetBool e ∧ w' = w := by
  rcases hs.split with h0 | ⟨_, b, off, rfl, hc⟩
  · rw [h0]; exact zzb24_zero a cap i j w
  · exact zzb24_some b off ss.length cap ss i j w hc

set_option maxHeartbeats 400000 in
theorem bud_some (b off len cap : Nat) (ss : List ByteArray) (w : World) (hm : len ≤ 1099511627776)
    (hc : ∀ i, i < len → w.cell? ⟨b, off + i, none⟩ = some (.string (ss.getD i ByteArray.empty))) :
    Calls Ebjg.prog 9 #[.slice (some ⟨b, off, none⟩) len cap, .int .i64 0] w fun e w' => RetBool e ∧ w' = w := by
  go_enter Ebjg.func9, Ebjg.ntmps9
  go_wp2
  go_loop [5, 6] (fun n i => ∃ k : Nat, k ≤ len ∧ i = .int .i64 k ∧ ∃ z : Int, n = .int .i64 z) (fun _ i => len - (intOf i).toNat)
  case atStart => exact ⟨0, Nat.zero_le _, rfl, _, rfl⟩
  case round =>
    obtain ⟨k, hk, rfl, z, rfl⟩ := hrel
    by_cases hlt : k < len
    · have hcell := hc k hlt
      go_wp2
      · go_ret
        exact ⟨RetBool.mk _, rfl⟩
      · go_ret
        exact ⟨RetBool.mk _, rfl⟩
      · go_round
        case rel => exact ⟨k + 1, by omega, by go_num, _, rfl⟩
        case measure => simp [intOf]; omega
    · go_wp2
      go_ret
      exact ⟨RetBool.mk _, rfl⟩

set_option maxHeartbeats 400000 in
theorem bud_zero (a : Option Addr) (cap : Nat) (w : World) :
    Calls Ebjg.prog 9 #[.slice a 0 cap, .int .i64 0] w fun e w' => RetBool e ∧ w' = w := by
  go_enter Ebjg.func9, Ebjg.ntmps9
  go_wp2
  go_loop [5, 6] (fun n i => i = .int .i64 0 ∧ n = .int .i64 0) (fun _ _ => 0)
  case atStart => exact ⟨rfl, rfl⟩
  case round =>
    obtain ⟨rfl, rfl⟩ := hrel
    go_wp2
    go_ret
    exact ⟨RetBool.mk _, rfl⟩

theorem bud_any (a : Option Addr) (cap : Nat) (ss : List ByteArray) (w : World) (hs : StrsAt w a ss) (hm : ss.length ≤ 1099511627776) :
    Calls Ebjg.prog 9 #[.slice a ss.length cap, .int .i64 0] w fun e w' => RetBool e ∧ w' = w := by
  rcases hs.split with h0 | ⟨_, b, off, rfl, hc⟩
  · rw [h0]; exact bud_zero a cap w
  · exact bud_some b off ss.length cap ss w hm hc

set_option maxHeartbeats 400000 in
theorem inc_some (b off len cap : Nat) (ss : List ByteArray) (w : World) (hm : len ≤ 1099511627776) (hp : 0 < len)
    (hc : ∀ i, i < len → w.cell? ⟨b, off + i, none⟩ = some (.string (ss.getD i ByteArray.empty))) :
    Calls Ebjg.prog 10 #[.slice (some ⟨b, off, none⟩) len cap] w fun e w' => RetBool e ∧ ∃ n, w' = w.drewN n := by
  go_enter Ebjg.func10, Ebjg.ntmps10
  go_wp2
  go_loopw [3] (fun i wr => ∃ k : Nat, k < len ∧ i = .int .i64 (k + 1) ∧ ∃ n, wr = w.drewN n) (fun i _ => len - (intOf i).toNat)
  case atStart => exact ⟨0, hp, rfl, 0, rfl⟩
  case round =>
    obtain ⟨k, hk, rfl, n, rfl⟩ := hrel
    by_cases hlt : k + 1 < len
    · have hcell := hc k (by omega)
      have hcell1 := hc (k + 1) (by omega)
      have hi1 : (k : Int) + 1 < (len : Int) := by omega
      have hi0 : (k : Int) < (len : Int) := by omega
      go_wp2
      go_quiet (fail)
      go_wp2
      · go_ret
        exact ⟨RetBool.mk _, n + nq, by simp⟩
      · go_roundw
        case rel => exact ⟨k + 1, by omega, by go_num, _, rfl⟩
        case measure => simp [intOf]; omega
    · have hi1 : ¬ (k : Int) + 1 < (len : Int) := by omega
      go_wp2
      go_ret
      exact ⟨RetBool.mk _, _, rfl⟩

set_option maxHeartbeats 400000 in
theorem inc_zero (a : Option Addr) (cap : Nat) (w : World) :
    Calls Ebjg.prog 10 #[.slice a 0 cap] w fun e w' => RetBool e ∧ ∃ n, w' = w.drewN n := by
  go_enter Ebjg.func10, Ebjg.ntmps10
  go_wp2
  go_loop [3] (fun i => i = .int .i64 1) (fun _ => 0)
  case atStart => exact rfl
  case round =>
    subst hrel
    go_wp2
    go_ret
    exact ⟨RetBool.mk _, 0, rfl⟩

theorem inc_any (a : Option Addr) (cap : Nat) (ss : List ByteArray) (w : World) (hs : StrsAt w a ss) (hm : ss.length ≤ 1099511627776) :
    Calls Ebjg.prog 10 #[.slice a ss.length cap] w fun e w' => RetBool e ∧ ∃ n, w' = w.drewN n := by
  rcases hs.split with h0 | ⟨hp, b, off, rfl, hc⟩
  · rw [h0]; exact inc_zero a cap w
  · exact inc_some b off ss.length cap ss w hm hp hc

end Go.Proofs.Yoebjw
