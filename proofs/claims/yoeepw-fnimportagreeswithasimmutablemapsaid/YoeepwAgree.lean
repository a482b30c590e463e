/-
  SEAT oeep: THE STATEMENT Rows.FnImportAgreesWithAsImmutableMapSaid. Typed by an AI agent. Nothing here is trusted.
-/
import Derived.Test.YoeepwAgreeWalk
import Derived.Test.YoeepwOpen
namespace Go.Proofs.Yoeepw
open Go.ChangeShapes Go.WideShapes Go.ChangeAt Go.RowKit
open Go.ChangeMaps (open_string shut_string)

set_option maxRecDepth 100000 in
theorem agree_lifted (os : Os) (started : os.Started) (H : Type) (enc : TypeId × Value → H) :
    ReturnsInHanded {} Eepg.checked os 3 .any (Rows.fnImportAgreesWithAsImmutableMapSpec.pre6 enc Eepg.prog Eepg.f3 Rows.fnImportAgreesWithAsImmutableMapRow.domain false) (Rows.fnImportAgreesWithAsImmutableMapSpec.post enc Eepg.prog Eepg.f3 false true false false) := by
  refine returnsInHanded_of_change (C := Eepg.checked) own started (by kernel_rfl) Eepg.func3
    (ChangeSpec.witness6 (enc := enc) (C := Eepg.checked) false ⟨#[], #[.slice none 0 0, .slice none 0 0, .string ByteArray.empty], []⟩ 8 (by kernel_rfl) (by kernel_rfl) (by kernel_rfl) (by kernel_rfl)) ?_
  intro W base args ds gs before hval0 hW hcnd _
  have hval : ∀ (j : Nat) t v, Eepg.f3.params[j]? = some t → args[j]? = some v → Value.okWide Eepg.prog W .any base t v := hval0
  have hW' := hW
  obtain ⟨p, q, hA0, hV, rfl, hfz, hnd⟩ := hW
  have hA : DataW.TrodAll enc Eepg.prog W 0 (fun _ => true) true Eepg.f3.params.toList args.toList ds p := hA0
  rw [Eepg.params3] at hA hval
  obtain ⟨v0, vs0, d0, ds0, p0, q0, hargs, rfl, rfl, h0, r0⟩ := trodAll_cons hA
  obtain ⟨v1, vs1, d1, ds1, p1, q1, rfl, rfl, rfl, h1, r1⟩ := trodAll_cons r0
  obtain ⟨v2, vs2, d2, ds2, p2, q2, rfl, rfl, rfl, h2, r2⟩ := trodAll_cons r1
  obtain ⟨rfl, rfl, rfl⟩ := trodAll_nil r2
  obtain rfl : args = #[v0, v1, v2] := by cases args; simp_all
  obtain ⟨rfl, rfl⟩ := trodVars_none hV
  obtain ⟨a0, len0, cap0, rfl⟩ := okWide_slice Eepg.underlying22 (hval 0 22 v0 rfl rfl)
  have k0 := h0
  have lt0 : ∀ x ∈ p0, x.block < W.heap.size := by obtain ⟨m, hm⟩ := k0; exact DataW.trod_lt m _ _ _ hm
  obtain ⟨m0, f, w0⟩ := open_strs h0
  obtain ⟨a1, len1, cap1, rfl⟩ := okWide_slice Eepg.underlying23 (hval 1 23 v1 rfl rfl)
  have k1 := h1
  have lt1 : ∀ x ∈ p1, x.block < W.heap.size := by obtain ⟨m, hm⟩ := k1; exact DataW.trod_lt m _ _ _ hm
  obtain ⟨m1, g, w1⟩ := open_nums h1
  obtain ⟨s2, rfl, rfl, rfl, w2⟩ := open_string Eepg.underlying9 (hval 2 9 v2 rfl rfl) h2
  clear hA0 hval0
  refine (agree3 a0 len0 cap0 a1 len1 cap1 s2 f g W m0 m1 w2 w0 w1).mono fun e W' ⟨he, bel⟩ => ?_
  subst he
  exact ⟨_, rfl, _, _, _, [], _, [], hW', trodAll_mk1 (shut_bool Eepg.underlying4 _), trodAll_mk3 (Below.trod laidOut (by kernel_rfl) (of_decide_eq_true (by kernel_rfl)) k0 bel lt0) (Below.trod laidOut (by kernel_rfl) (of_decide_eq_true (by kernel_rfl)) k1 bel lt1) (shut_string Eepg.underlying9 w2), rfl, bel.frame _, fun h => by cases h⟩

theorem agree_over : Rows.fnImportAgreesWithAsImmutableMapRow.holds Eepg.pinned (OpenSpec.ofChange Rows.fnImportAgreesWithAsImmutableMapSpec) :=
  OpenClaim.holds_of_wide 3 Eepg.f3 rfl rfl rfl rfl rfl rfl rfl ⟨rfl, rfl, rfl, rfl, rfl⟩ rfl rfl rfl rfl rfl (by kernel_rfl) Eepg.func3 (by kernel_rfl)
    (of_decide_eq_true (by kernel_rfl)) (by unfold Func.isWrapper; first | (rw [if_pos (by decide +kernel)]; kernel_rfl) | (rw [if_neg (by decide +kernel)]; exact ⟨rfl, rfl⟩))
    (fun os started H enc _ => agree_lifted os started H enc)

theorem agree_proved : Rows.FnImportAgreesWithAsImmutableMapSaid := agree_over

end Go.Proofs.Yoeepw
