/-
  SEAT oeep: THE STATEMENT Rows.FnImportNameDecidesEqualitySaid. Typed by an AI agent. Nothing here is trusted.
-/
import Derived.Test.YoeepwDecidesWalk
import Derived.Test.YoeepwOpen
namespace Go.Proofs.Yoeepw
open Go.ChangeShapes Go.WideShapes Go.ChangeAt Go.RowKit
open Go.ChangeMaps (open_string shut_string)

set_option maxRecDepth 100000 in
theorem decides_lifted (os : Os) (started : os.Started) (H : Type) (enc : TypeId × Value → H) :
    ReturnsInHanded {} Eepg.checked os 4 .any (Rows.fnImportNameDecidesEqualitySpec.pre6 enc Eepg.prog Eepg.f4 Rows.fnImportNameDecidesEqualityRow.domain false) (Rows.fnImportNameDecidesEqualitySpec.post enc Eepg.prog Eepg.f4 false true false false) := by
  refine returnsInHanded_of_change (C := Eepg.checked) own started (by kernel_rfl) Eepg.func4
    (ChangeSpec.witness6 (enc := enc) (C := Eepg.checked) false ⟨#[], #[.slice none 0 0, .slice none 0 0, .string ByteArray.empty, .string ByteArray.empty], []⟩ 8 (by kernel_rfl) (by kernel_rfl) (by kernel_rfl) (by kernel_rfl)) ?_
  intro W base args ds gs before hval0 hW hcnd _
  have hval : ∀ (j : Nat) t v, Eepg.f4.params[j]? = some t → args[j]? = some v → Value.okWide Eepg.prog W .any base t v := hval0
  have hW' := hW
  obtain ⟨p, q, hA0, hV, rfl, hfz, hnd⟩ := hW
  have hA : DataW.TrodAll enc Eepg.prog W 0 (fun _ => true) true Eepg.f4.params.toList args.toList ds p := hA0
  rw [Eepg.params4] at hA hval
  obtain ⟨v0, vs0, d0, ds0, p0, q0, hargs, rfl, rfl, h0, r0⟩ := trodAll_cons hA
  obtain ⟨v1, vs1, d1, ds1, p1, q1, rfl, rfl, rfl, h1, r1⟩ := trodAll_cons r0
  obtain ⟨v2, vs2, d2, ds2, p2, q2, rfl, rfl, rfl, h2, r2⟩ := trodAll_cons r1
  obtain ⟨v3, vs3, d3, ds3, p3, q3, rfl, rfl, rfl, h3, r3⟩ := trodAll_cons r2
  obtain ⟨rfl, rfl, rfl⟩ := trodAll_nil r3
  obtain rfl : args = #[v0, v1, v2, v3] := by cases args; simp_all
  obtain ⟨rfl, rfl⟩ := trodVars_none hV
  obtain ⟨a0, len0, cap0, rfl⟩ := okWide_slice Eepg.underlying22 (hval 0 22 v0 rfl rfl)
  have k0 := h0
  have lt0 : ∀ x ∈ p0, x.block < W.heap.size := by obtain ⟨m, hm⟩ := k0; exact DataW.trod_lt m _ _ _ hm
  obtain ⟨m0, f, w0⟩ := open_strs h0
  obtain ⟨a1, len1, cap1, rfl⟩ := okWide_slice Eepg.underlying23 (hval 1 23 v1 rfl rfl)
  have k1 := h1
  have lt1 : ∀ x ∈ p1, x.block < W.heap.size := by obtain ⟨m, hm⟩ := k1; exact DataW.trod_lt m _ _ _ hm
  obtain ⟨m1, g, w1⟩ := open_nums h1
  obtain ⟨s2, rfl, rfl, rfl, w2⟩ := open_string Eepg.underlying9 (hval 2 9 v2 rfl rfl) h2
  obtain ⟨s3, rfl, rfl, rfl, w3⟩ := open_string Eepg.underlying9 (hval 3 9 v3 rfl rfl) h3
  clear hA0 hval0
  refine (decides4 a0 len0 cap0 a1 len1 cap1 s2 s3 f g W m0 m1 w2 w3 w0 w1).mono fun e W' ⟨he, bel⟩ => ?_
  subst he
  exact ⟨_, rfl, _, _, _, [], _, [], hW', trodAll_mk1 (shut_bool Eepg.underlying4 _), trodAll_mk4 (Below.trod laidOut (by kernel_rfl) (of_decide_eq_true (by kernel_rfl)) k0 bel lt0) (Below.trod laidOut (by kernel_rfl) (of_decide_eq_true (by kernel_rfl)) k1 bel lt1) (shut_string Eepg.underlying9 w2) (shut_string Eepg.underlying9 w3), rfl, bel.frame _, fun h => by cases h⟩

theorem decides_over : Rows.fnImportNameDecidesEqualityRow.holds Eepg.pinned (OpenSpec.ofChange Rows.fnImportNameDecidesEqualitySpec) :=
  OpenClaim.holds_of_wide 4 Eepg.f4 rfl rfl rfl rfl rfl rfl rfl ⟨rfl, rfl, rfl, rfl, rfl⟩ rfl rfl rfl rfl rfl (by kernel_rfl) Eepg.func4 (by kernel_rfl)
    (of_decide_eq_true (by kernel_rfl)) (by unfold Func.isWrapper; first | (rw [if_pos (by decide +kernel)]; kernel_rfl) | (rw [if_neg (by decide +kernel)]; exact ⟨rfl, rfl⟩))
    (fun os started H enc _ => decides_lifted os started H enc)

theorem decides_proved : Rows.FnImportNameDecidesEqualitySaid := decides_over

end Go.Proofs.Yoeepw
