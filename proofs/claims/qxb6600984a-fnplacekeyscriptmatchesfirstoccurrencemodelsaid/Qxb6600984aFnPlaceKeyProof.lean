import Derived.Test.Qxb6600984aOpenInts
import Derived.Test.Qxb6600984aScriptWalk
namespace Go.Proofs.Qxb6600984a.fnPlaceKeyScriptMatchesFirstOccurrenceModel
open Go.ChangeShapes Go.WideShapes Go.ChangeAt Go.RowKit

set_option maxRecDepth 100000 in
theorem lifted (os : Os) (started : os.Started) (H : Type) (enc : TypeId × Value → H) :
    ReturnsInHanded {} Try.checked os 5 .any (Rows.fnPlaceKeyScriptMatchesFirstOccurrenceModelSpec.pre6 enc Try.prog Try.f5 Rows.fnPlaceKeyScriptMatchesFirstOccurrenceModelRow.domain false) (Rows.fnPlaceKeyScriptMatchesFirstOccurrenceModelSpec.post enc Try.prog Try.f5 false true false false) := by
  refine returnsInHanded_of_change_sized (C := Try.checked) own started (by kernel_rfl) Try.func5
    (ChangeSpec.witness6 (enc := enc) (C := Try.checked) false ⟨#[], #[.slice none 0 0, .slice none 0 0, .int .i64 0], []⟩ 8 (by kernel_rfl) (by kernel_rfl) (by kernel_rfl) (by kernel_rfl)) ?_
  intro W base args ds gs before hval0 hW _ hsz0 _
  have hsz : (DataW.weightsEach Try.prog (Try.f5.params.toList ++ Rows.fnPlaceKeyScriptMatchesFirstOccurrenceModelSpec.plain.varTypes Try.prog) (ds ++ gs)).all (· ≤ reachBytes) = true := hsz0
  clear hsz0
  have hval : ∀ (j : Nat) t v, Try.f5.params[j]? = some t → args[j]? = some v → Value.okWide Try.prog W .any base t v := hval0
  have hW' := hW
  obtain ⟨p, q, hA0, hV, rfl, hfz, hnd⟩ := hW
  have hA : DataW.TrodAll enc Try.prog W 0 (fun _ => true) true Try.f5.params.toList args.toList ds p := hA0
  rw [Try.params5] at hA hval hsz
  obtain ⟨v0, vs0, d0, ds0, p0, q0, hargs, rfl, rfl, h0, r0⟩ := trodAll_cons hA
  obtain ⟨v1, vs1, d1, ds1, p1, q1, rfl, rfl, rfl, h1, r1⟩ := trodAll_cons r0
  obtain ⟨v2, vs2, d2, ds2, p2, q2, rfl, rfl, rfl, h2, r2⟩ := trodAll_cons r1
  obtain ⟨rfl, rfl, rfl⟩ := trodAll_nil r2
  obtain rfl : args = #[v0, v1, v2] := by cases args; simp_all
  obtain ⟨rfl, rfl⟩ := trodVars_none hV
  obtain ⟨a0, len0, cap0, rfl⟩ := okWide_slice Try.underlying27 (hval 0 27 v0 rfl rfl)
  have lt0 : ∀ x ∈ p0, x.block < W.heap.size := by obtain ⟨m, hm⟩ := h0; exact DataW.trod_lt m _ _ _ hm
  obtain ⟨a1, len1, cap1, rfl⟩ := okWide_slice Try.underlying28 (hval 1 28 v1 rfl rfl)
  have lt1 : ∀ x ∈ p1, x.block < W.heap.size := by obtain ⟨m, hm⟩ := h1; exact DataW.trod_lt m _ _ _ hm
  obtain ⟨s, rfl, rfl, rfl, hs⟩ := open_int Try.underlying3 (hval 2 3 v2 rfl rfl) h2
  obtain ⟨ss0, e0, c0, z0, b0⟩ := open_cells h0 lt0
  obtain ⟨ss1, e1, c1, b1⟩ := open_icells h1 lt1
  have hb0 : len0 ≤ 9000000000000 := by
    rcases b0 with b0 | ⟨a, b, rfl, hab⟩
    · omega
    · have := sized_slice hsz (j := 0) (t := 27) (e := 9) rfl rfl Try.underlying27
      rw [bytes9] at this
      simp only [reachBytes] at this
      omega
  have hb1 : len1 ≤ 18000000000000 := by
    rcases b1 with b1 | ⟨a, b, rfl, hab⟩
    · omega
    · have := sized_slice hsz (j := 1) (t := 28) (e := 3) rfl rfl Try.underlying28
      rw [bytes3] at this
      simp only [reachBytes] at this
      omega
  clear hA0 hval0
  refine (script_walk a0 a1 len0 cap0 len1 cap1 ss0 ss1 s W e0 e1 hb0 hb1 c0 c1 z0).mono fun e W' ⟨he, bel⟩ => ?_
  subst he
  exact ⟨_, rfl, _, _, _, [], _, [], hW', trodAll_mk1 (shut_bool Try.underlying4 _), (trodAll_cons_mk (Below.trod laidOut (by kernel_rfl) (of_decide_eq_true (by kernel_rfl)) h0 bel lt0) (trodAll_cons_mk (Below.trod laidOut (by kernel_rfl) (of_decide_eq_true (by kernel_rfl)) h1 bel lt1) (trodAll_cons_mk (shut_int Try.underlying3 hs) trodAll_mk0))), rfl, bel.frame _, fun h => by cases h⟩

theorem over : Rows.fnPlaceKeyScriptMatchesFirstOccurrenceModelRow.holds Try.pinned (OpenSpec.ofChange Rows.fnPlaceKeyScriptMatchesFirstOccurrenceModelSpec) :=
  OpenClaim.holds_of_wide 5 Try.f5 rfl rfl rfl rfl rfl rfl rfl ⟨rfl, rfl, rfl, rfl, rfl⟩ rfl rfl rfl rfl rfl (by kernel_rfl) Try.func5 (by kernel_rfl)
    (of_decide_eq_true (by kernel_rfl)) (by unfold Func.isWrapper; first | (rw [if_pos (by decide +kernel)]; kernel_rfl) | (rw [if_neg (by decide +kernel)]; exact ⟨rfl, rfl⟩))
    (fun os started H enc _ => lifted os started H enc)

/-- The statement. -/
theorem proved : Rows.FnPlaceKeyScriptMatchesFirstOccurrenceModelSaid :=
  over
end Go.Proofs.Qxb6600984a.fnPlaceKeyScriptMatchesFirstOccurrenceModel
