/-
  THE ITERATOR's OWN METHODS AND THE SHIM's ROUND THEM: String, IsFalsy, Equals, Next, Key, Copy, ZZkey, ZZequals, ZZcopy, ZZfields: a contract each.
-/
import Derived.Test.YoebjwReads
import Derived.Deep.OwnRows
import Derived.Maps.Own
import Derived.BigRegion
namespace Go.Proofs.Yoebjw
open Go.RowKit

/-- The four cells of a MapIterator: its map, its keys, its position, its length. -/
def itCells (m a : Value) (i l : Int) : Nat → Value
  | 0 => m
  | 1 => a
  | 2 => .int .i64 i
  | _ => .int .i64 l
/-- Block b is a MapIterator. -/
def IterAt (w : World) (b : Nat) (mb : Option Nat) (ka : Option Addr) (len cap : Nat) (i : Int) : Prop :=
  w.rowIs b 47 4 (itCells (.map mb) (.slice ka len cap) i len)

theorem IterAt.c0 {w : World} {b : Nat} {mb : Option Nat} {ka : Option Addr} {len cap : Nat} {i : Int} (h : IterAt w b mb ka len cap i) : w.cell? ⟨b, 0, none⟩ = some (.map mb) := World.rowIs.cell h (by omega : (0 : Nat) < 4)
theorem IterAt.c1 {w : World} {b : Nat} {mb : Option Nat} {ka : Option Addr} {len cap : Nat} {i : Int} (h : IterAt w b mb ka len cap i) : w.cell? ⟨b, 1, none⟩ = some (.slice ka len cap) := World.rowIs.cell h (by omega : (1 : Nat) < 4)
theorem IterAt.c2 {w : World} {b : Nat} {mb : Option Nat} {ka : Option Addr} {len cap : Nat} {i : Int} (h : IterAt w b mb ka len cap i) : w.cell? ⟨b, 2, none⟩ = some (.int .i64 i) := World.rowIs.cell h (by omega : (2 : Nat) < 4)
theorem IterAt.c3 {w : World} {b : Nat} {mb : Option Nat} {ka : Option Addr} {len cap : Nat} {i : Int} (h : IterAt w b mb ka len cap i) : w.cell? ⟨b, 3, none⟩ = some (.int .i64 len) := World.rowIs.cell h (by omega : (3 : Nat) < 4)
theorem IterAt.f2 {w : World} {b : Nat} {mb : Option Nat} {ka : Option Addr} {len cap : Nat} {i : Int} (h : IterAt w b mb ka len cap i) : w.frozen? ⟨b, 2, none⟩ = false := World.rowIs.frozen h 2
theorem IterAt.lt {w : World} {b : Nat} {mb : Option Nat} {ka : Option Addr} {len cap : Nat} {i : Int} (h : IterAt w b mb ka len cap i) : b < w.heap.size := World.rowIs.lt h
theorem IterAt.kept {w w' : World} {row : Option Nat} {b : Nat} {mb : Option Nat} {ka : Option Addr} {len cap : Nat} {i : Int} (h : IterAt w b mb ka len cap i) (hg : w.grownBy w' row) (hne : some b ≠ row) : IterAt w' b mb ka len cap i :=
  World.rowIs.of_block h (hg.block b h.lt hne)
theorem IterAt.stepped {w : World} {b : Nat} {mb : Option Nat} {ka : Option Addr} {len cap : Nat} {i j : Int} (h : IterAt w b mb ka len cap i) (n : Nat) : IterAt ((w.setCell ⟨b, 2, none⟩ (.int .i64 j)).drewN n) b mb ka len cap j := by
  refine World.rowIs.congr (World.rowIs.set h 2 (.int .i64 j)) fun k hk => ?_
  match k, hk with
  | 0, _ => rfl
  | 1, _ => rfl
  | 2, _ => rfl
  | 3, _ => rfl
theorem grown_stepped (w : World) (b : Nat) (v : Value) (n : Nat) : w.grownBy ((w.setCell ⟨b, 2, none⟩ v).drewN n) (some b) :=
  ⟨rfl, rfl, rfl, by simp [World.setCell], fun k _ hk => Below.heap_setCell w _ v k (fun e => hk (by rw [e]))⟩

theorem str_any (p : Value) (w : World) : Calls Ebjg.prog 13 #[p] w fun e w' => e = .returned (.string ⟨#[60, 109, 97, 112, 45, 105, 116, 101, 114, 97, 116, 111, 114, 62]⟩) ∧ w' = w := by
  go_enter Ebjg.func13, Ebjg.ntmps13
  go_wp2
  go_ret
  exact ⟨rfl, rfl⟩

theorem falsy_any (p : Value) (w : World) : Calls Ebjg.prog 17 #[p] w fun e w' => e = .returned (.bool true) ∧ w' = w := by
  go_enter Ebjg.func17, Ebjg.ntmps17
  go_wp2
  go_ret
  exact ⟨rfl, rfl⟩

theorem equals_any (p q : Value) (w : World) : Calls Ebjg.prog 26 #[p, q] w fun e w' => e = .returned (.bool false) ∧ w' = w := by
  go_enter Ebjg.func26, Ebjg.ntmps26
  go_wp2
  go_ret
  exact ⟨rfl, rfl⟩

theorem zzequals_any (p q : Option Addr) (w : World) : Calls Ebjg.prog 19 #[.pointer p, .pointer q] w fun e w' => e = .returned (.bool false) ∧ w' = w := by
  go_enter Ebjg.func19, Ebjg.ntmps19
  go_wp2_with (go_at_call 26; refine (equals_any _ _ _).mono ?_; rintro e w' ⟨rfl, rfl⟩)
  go_ret
  exact ⟨rfl, rfl⟩

set_option maxHeartbeats 400000 in
theorem next_core (b len : Nat) (i : Int) (w : World) (c2 : w.cell? ⟨b, 2, none⟩ = some (.int .i64 i)) (c3 : w.cell? ⟨b, 3, none⟩ = some (.int .i64 len)) (f2 : w.frozen? ⟨b, 2, none⟩ = false)
    (hi : 0 ≤ i) (hm : i ≤ 1099511627776) :
    Calls Ebjg.prog 14 #[.pointer (some ⟨b, 0, none⟩)] w fun e w' => e = .returned (.bool (decide (i + 1 ≤ (len : Int)))) ∧ ∃ n, w' = (w.setCell ⟨b, 2, none⟩ (.int .i64 (i + 1))).drewN n := by
  go_enter Ebjg.func14, Ebjg.ntmps14
  go_wp2
  go_quiet (fail)
  go_wp2
  go_ret
  exact ⟨rfl, _, rfl⟩

theorem next_any (b : Nat) (mb : Option Nat) (ka : Option Addr) (len cap : Nat) (i : Int) (w : World) (h : IterAt w b mb ka len cap i) (hi : 0 ≤ i) (hm : i ≤ 1099511627776) :
    Calls Ebjg.prog 14 #[.pointer (some ⟨b, 0, none⟩)] w fun e w' => e = .returned (.bool (decide (i + 1 ≤ (len : Int)))) ∧ IterAt w' b mb ka len cap (i + 1) ∧ w.grownBy w' (some b) := by
  refine (next_core b len i w h.c2 h.c3 h.f2 hi hm).mono ?_
  rintro e w' ⟨rfl, n, rfl⟩
  exact ⟨rfl, h.stepped n, grown_stepped w b _ n⟩

theorem next_yes (b : Nat) (mb : Option Nat) (ka : Option Addr) (len cap : Nat) (i : Int) (w : World) (h : IterAt w b mb ka len cap i) (hi : 0 ≤ i) (hm : i ≤ 1099511627776) (hd : i + 1 ≤ (len : Int)) :
    Calls Ebjg.prog 14 #[.pointer (some ⟨b, 0, none⟩)] w fun e w' => e = .returned (.bool true) ∧ IterAt w' b mb ka len cap (i + 1) ∧ w.grownBy w' (some b) := by
  have h1 := next_any b mb ka len cap i w h hi hm
  rw [decide_eq_true hd] at h1
  exact h1
theorem next_no (b : Nat) (mb : Option Nat) (ka : Option Addr) (len cap : Nat) (i : Int) (w : World) (h : IterAt w b mb ka len cap i) (hi : 0 ≤ i) (hm : i ≤ 1099511627776) (hd : ¬ i + 1 ≤ (len : Int)) :
    Calls Ebjg.prog 14 #[.pointer (some ⟨b, 0, none⟩)] w fun e w' => e = .returned (.bool false) ∧ IterAt w' b mb ka len cap (i + 1) ∧ w.grownBy w' (some b) := by
  have h1 := next_any b mb ka len cap i w h hi hm
  rw [decide_eq_false hd] at h1
  exact h1

set_option maxHeartbeats 400000 in
theorem fields_core (b : Nat) (s : Value) (i l : Int) (w : World) (c1 : w.cell? ⟨b, 1, none⟩ = some s) (c2 : w.cell? ⟨b, 2, none⟩ = some (.int .i64 i)) (c3 : w.cell? ⟨b, 3, none⟩ = some (.int .i64 l)) :
    Calls Ebjg.prog 22 #[.pointer (some ⟨b, 0, none⟩)] w fun e w' => e = .returned (.tuple #[s, .int .i64 i, .int .i64 l]) ∧ ∃ n, w' = w.drewN n := by
  go_enter Ebjg.func22, Ebjg.ntmps22
  go_wp2
  go_quiet (fail)
  go_wp2
  go_ret3
  exact ⟨rfl, _, rfl⟩

theorem str_cells (s : ByteArray) (i : Nat) (hi : i < (#[Value.string s, Value.slice none 0 0] : Array Value).size) : (#[Value.string s, Value.slice none 0 0] : Array Value)[i]? = some (if i = 0 then .string s else .slice none 0 0) := by
  match i, hi with
  | 0, _ => rfl
  | 1, _ => rfl
theorem it_cells (m s : Value) (i l : Int) (k : Nat) (hk : k < (#[m, s, .int .i64 i, .int .i64 l] : Array Value).size) : (#[m, s, .int .i64 i, .int .i64 l] : Array Value)[k]? = some (itCells m s i l k) := by
  match k, hk with
  | 0, _ => rfl
  | 1, _ => rfl
  | 2, _ => rfl
  | 3, _ => rfl
theorem grown_drewN_alloc (w : World) (n : Nat) (o : Obj) : w.grownBy ((w.drewN n).alloc o) none :=
  ⟨rfl, rfl, rfl, by simp, fun k hk _ => Below.heap_alloc (w.drewN n) o k hk⟩
theorem grown_alloc_drewN (w : World) (n : Nat) (o : Obj) : w.grownBy ((w.alloc o).drewN n) none :=
  ⟨rfl, rfl, rfl, by simp, fun k hk _ => Below.heap_alloc w o k hk⟩

set_option maxHeartbeats 400000 in
theorem key_core (b kb ko len cap k : Nat) (s : ByteArray) (w : World) (c1 : w.cell? ⟨b, 1, none⟩ = some (.slice (some ⟨kb, ko, none⟩) len cap)) (c2 : w.cell? ⟨b, 2, none⟩ = some (.int .i64 ((k : Int) + 1)))
    (hk : (k : Int) < (len : Int)) (hm : (len : Int) ≤ 1099511627776) (ck : w.cell? ⟨kb, ko + k, none⟩ = some (.string s)) :
    Calls Ebjg.prog 25 #[.pointer (some ⟨b, 0, none⟩)] w fun e w' => e = .returned (.iface 38 (.pointer (some ⟨w.heap.size, 0, none⟩))) ∧ w'.cell? ⟨w.heap.size, 0, none⟩ = some (.string s) ∧ w.grownBy w' none := by
  go_enter Ebjg.func25, Ebjg.ntmps25
  go_wp2
  go_quiet (fail)
  go_wp2
  go_ret
  exact ⟨rfl, World.rowIs.cell (World.rowIs_alloc (w.drewN nq) _ 43 _ (str_cells s)) (by simp : 0 < _), grown_drewN_alloc w nq _⟩

set_option maxHeartbeats 400000 in
theorem copy_core (b len cap : Nat) (mb : Option Nat) (ka : Option Addr) (i l : Int) (w : World) (c0 : w.cell? ⟨b, 0, none⟩ = some (.map mb)) (c1 : w.cell? ⟨b, 1, none⟩ = some (.slice ka len cap)) (c2 : w.cell? ⟨b, 2, none⟩ = some (.int .i64 i)) (c3 : w.cell? ⟨b, 3, none⟩ = some (.int .i64 l)) :
    Calls Ebjg.prog 27 #[.pointer (some ⟨b, 0, none⟩)] w fun e w' => e = .returned (.iface 26 (.pointer (some ⟨w.heap.size, 0, none⟩))) ∧ w'.rowIs w.heap.size 47 4 (itCells (.map mb) (.slice ka len cap) i l) ∧ w.grownBy w' none := by
  go_enter Ebjg.func27, Ebjg.ntmps27
  go_wp2
  go_region
  go_wp2
  go_ret
  exact ⟨rfl, World.rowIs_alloc w #[.map mb, .slice ka len cap, .int .i64 i, .int .i64 l] 47 _ (it_cells _ _ _ _), grown_alloc_drewN w 1 _⟩

theorem copy_any (b : Nat) (mb : Option Nat) (ka : Option Addr) (len cap : Nat) (i : Int) (w : World) (h : IterAt w b mb ka len cap i) :
    Calls Ebjg.prog 27 #[.pointer (some ⟨b, 0, none⟩)] w fun e w' => e = .returned (.iface 26 (.pointer (some ⟨w.heap.size, 0, none⟩))) ∧ IterAt w' w.heap.size mb ka len cap i ∧ w.grownBy w' none :=
  copy_core b len cap mb ka i len w h.c0 h.c1 h.c2 h.c3

theorem assert26 (a : Option Addr) (w : World) : (Instr.typeAssert (.iface 26 (.pointer a)) 45 26 true).run Ebjg.prog w = .ok (.tuple #[.pointer a, .bool true]) w := by kernel_rfl
theorem assert38 (a : Option Addr) (w : World) : (Instr.typeAssert (.iface 38 (.pointer a)) 45 38 false).run Ebjg.prog w = .ok (.pointer a) w := by kernel_rfl

set_option maxHeartbeats 400000 in
theorem zzcopy_any (b : Nat) (mb : Option Nat) (ka : Option Addr) (len cap : Nat) (i : Int) (w : World) (h : IterAt w b mb ka len cap i) :
    Calls Ebjg.prog 20 #[.pointer (some ⟨b, 0, none⟩)] w fun e w' => e = .returned (.pointer (some ⟨w.heap.size, 0, none⟩)) ∧ IterAt w' w.heap.size mb ka len cap i ∧ w.grownBy w' none := by
  have hta := assert26
  go_enter Ebjg.func20, Ebjg.ntmps20
  go_wp2_with (go_at_call 27; refine (copy_any b mb ka len cap i _ h).mono ?_; rintro e w' ⟨rfl, hit, hgr⟩)
  go_ret
  exact ⟨rfl, hit, hgr⟩

set_option maxHeartbeats 400000 in
theorem zzkey_core (b kb ko len cap k : Nat) (s : ByteArray) (w : World) (c1 : w.cell? ⟨b, 1, none⟩ = some (.slice (some ⟨kb, ko, none⟩) len cap)) (c2 : w.cell? ⟨b, 2, none⟩ = some (.int .i64 ((k : Int) + 1)))
    (hk : (k : Int) < (len : Int)) (hm : (len : Int) ≤ 1099511627776) (ck : w.cell? ⟨kb, ko + k, none⟩ = some (.string s)) :
    Calls Ebjg.prog 15 #[.pointer (some ⟨b, 0, none⟩)] w fun e w' => e = .returned (.string s) ∧ w.grownBy w' none := by
  have hta := assert38
  go_enter Ebjg.func15, Ebjg.ntmps15
  go_wp2_with (go_at_call 25; refine (key_core b kb ko len cap k s _ c1 c2 hk hm ck).mono ?_; rintro e w' ⟨rfl, hit, hgr⟩)
  go_ret
  exact ⟨rfl, hgr⟩

/-- ZZkey, the keys at the head of a row. -/
theorem zzkey_any (b kb len cap k : Nat) (j : Int) (s : ByteArray) (w : World) (c1 : w.cell? ⟨b, 1, none⟩ = some (.slice (some ⟨kb, 0, none⟩) len cap)) (c2 : w.cell? ⟨b, 2, none⟩ = some (.int .i64 j))
    (hj : j = (k : Int) + 1) (hk : k < len) (hm : len ≤ 65536) (ck : w.cell? ⟨kb, k, none⟩ = some (.string s)) :
    Calls Ebjg.prog 15 #[.pointer (some ⟨b, 0, none⟩)] w fun e w' => e = .returned (.string s) ∧ w.grownBy w' none := by
  subst hj
  exact zzkey_core b kb 0 len cap k s w c1 c2 (by omega) (by omega) (by rw [Nat.zero_add]; exact ck)

end Go.Proofs.Yoebjw
