/-
  'Rows.FnMapIteratorCopyAdvancesIndependentlySaid' PROVED: the row over the walk. (The frame: the guide's own shell for a law over slices, turned to a slice of strings.)
-/
import Derived.Test.YoebjwFrame
import Derived.Test.YoebjwApart
namespace Go.Proofs.Yoebjw
open Go.ChangeShapes Go.WideShapes Go.ChangeAt Go.RowKit

set_option maxRecDepth 100000 in
theorem apart_lifted (os : Os) (started : os.Started) (H : Type) (enc : TypeId × Value → H) :
    ReturnsInHanded {} Ebjg.checked os 7 .any (Rows.fnMapIteratorCopyAdvancesIndependentlySpec.pre6 enc Ebjg.prog Ebjg.f7 Rows.fnMapIteratorCopyAdvancesIndependentlyRow.domain false) (Rows.fnMapIteratorCopyAdvancesIndependentlySpec.post enc Ebjg.prog Ebjg.f7 false true false false) := by
  refine returnsInHanded_of_change (C := Ebjg.checked) Ebjg.own started (by kernel_rfl) Ebjg.func7
    (ChangeSpec.witness6 (enc := enc) (C := Ebjg.checked) false ⟨#[], #[.slice none 0 0, .int .i64 0, .int .i64 0], []⟩ 8 (by kernel_rfl) (by kernel_rfl) (by kernel_rfl) (by kernel_rfl)) ?_
  intro W base args ds gs before hval0 hW hcnd _
  have hval : ∀ (j : Nat) t v, Ebjg.f7.params[j]? = some t → args[j]? = some v → Value.okWide Ebjg.prog W .any base t v := hval0
  have hW' := hW
  obtain ⟨p, q, hA0, hV, rfl, hfz, hnd⟩ := hW
  have hA : DataW.TrodAll enc Ebjg.prog W 0 (fun _ => true) true Ebjg.f7.params.toList args.toList ds p := hA0
  rw [Ebjg.params7] at hA hval
  obtain ⟨v0, vs0, d0, ds0, p0, q0, hargs, rfl, rfl, h0, r0⟩ := trodAll_cons hA
  obtain ⟨v1, vs1, d1, ds1, p1, q1, rfl, rfl, rfl, h1, r1⟩ := trodAll_cons r0
  obtain ⟨v2, vs2, d2, ds2, p2, q2, rfl, rfl, rfl, h2, r2⟩ := trodAll_cons r1
  obtain ⟨rfl, rfl, rfl⟩ := trodAll_nil r2
  obtain rfl : args = #[v0, v1, v2] := by cases args; simp_all
  obtain ⟨rfl, rfl⟩ := trodVars_none hV
  obtain ⟨a0, len0, cap0, rfl⟩ := okWide_slice Ebjg.underlying22 (hval 0 22 v0 rfl rfl)
  have k0 := h0
  have lt0 : ∀ x ∈ p0, x.block < W.heap.size := by obtain ⟨m, hm⟩ := k0; exact DataW.trod_lt m _ _ _ hm
  obtain ⟨ss, hlen, hstrs, hsz⟩ : ∃ ss, KeysIn W a0 len0 ss := by
    obtain ⟨fuel, hf⟩ := h0
    exact keys_in hf
  obtain ⟨a1, rfl, rfl, rfl, w1⟩ := open_int Ebjg.underlying3 (hval 1 3 v1 rfl rfl) h1
  obtain ⟨a2, rfl, rfl, rfl, w2⟩ := open_int Ebjg.underlying3 (hval 2 3 v2 rfl rfl) h2
  clear hA0 hval0
  have hwalk := apart_walk a0 cap0 ss a1 a2 W hstrs hsz
  rw [← hlen] at hwalk
  refine hwalk.mono fun e W' ⟨he, hgr⟩ => ?_
  subst he
  have bel := below_of_grown hgr
  exact ⟨_, rfl, _, _, _, [], _, [], hW', trodAll_mk1 (shut_bool Ebjg.underlying4 _), (trodAll_mk3 (Below.trod Ebjg.laidOut (by kernel_rfl) (of_decide_eq_true (by kernel_rfl)) k0 bel lt0) (shut_int Ebjg.underlying3 w1) (shut_int Ebjg.underlying3 w2)), rfl, bel.frame _, fun h => by cases h⟩

theorem apart_holds : Rows.FnMapIteratorCopyAdvancesIndependentlySaid :=
  OpenClaim.holds_of_wide 7 Ebjg.f7 rfl rfl rfl rfl rfl rfl rfl ⟨rfl, rfl, rfl, rfl, rfl⟩ rfl rfl rfl rfl rfl (by kernel_rfl) Ebjg.func7 (by kernel_rfl)
    (of_decide_eq_true (by kernel_rfl)) (by unfold Func.isWrapper; first | (rw [if_pos (by decide +kernel)]; kernel_rfl) | (rw [if_neg (by decide +kernel)]; exact ⟨rfl, rfl⟩))
    (fun os started H enc _ => apart_lifted os started H enc)

end Go.Proofs.Yoebjw
