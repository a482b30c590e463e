/-
  SEAT oeep: the laws' arguments opened: a slice of strings, a slice of integers, as the walks ask for them. Typed by an AI agent. Nothing here is trusted.
-/
import Derived.Test.YoeepwFrame
import Derived.ProofKit
import Derived.ShutString
import Derived.SliceStrings
namespace Go.Proofs.Yoeepw
open Go.ChangeShapes Go.WideShapes Go.ChangeAt Go.RowKit
open Go.ChangeMaps (open_string shut_string)

theorem own : ownKnob Eepg.prog.godebug = none := by kernel_rfl
theorem laidOut : laidOutB Eepg.prog = true := by kernel_rfl

theorem open_strs {H : Type} {enc : TypeId × Value → H} {W : World} {a : Option Addr} {n c : Nat} {d : DataW H} {p : List MemPlace} (h : DataW.Trod enc Eepg.prog W 0 (fun _ => true) true 22 (.slice a n c) d p) : n ≤ maxLen ∧ ∃ f, StrsAt W a n f := by
  obtain ⟨fuel, hf⟩ := h
  rcases open_strings Eepg.underlying22 Eepg.underlying9 (by kernel_rfl) hf with ⟨hcs, _⟩ | ⟨x, l, c', ss, hcs, _, hl, hm, hz, _, hcell, hws⟩
  · simp [Value.cells] at hcs
    obtain ⟨rfl, rfl, rfl⟩ := hcs
    exact ⟨Nat.zero_le _, fun _ => ByteArray.empty, .inl rfl⟩
  · simp [Value.cells] at hcs
    obtain ⟨rfl, rfl, rfl⟩ := hcs
    refine ⟨by omega, fun i => ss.getD i ByteArray.empty, ?_⟩
    by_cases h0 : n = 0
    · exact .inl h0
    · obtain ⟨b, off, spot⟩ := x
      simp at hz
      have hc := hcell 0 (by omega)
      have hspot : spot = none := by simpa [Addr.add] using World.cell?_spot hc
      subst hspot
      refine .inr ⟨b, off, rfl, fun i hi => ⟨?_, ?_⟩⟩
      · have := hcell i (by omega)
        rwa [Addr.add_lit] at this
      · refine hws _ ?_
        show ss.getD i ByteArray.empty ∈ ss
        rw [List.getD_eq_getElem?_getD, List.getElem?_eq_getElem (by omega), Option.getD_some]
        exact List.getElem_mem _

theorem open_nums {H : Type} {enc : TypeId × Value → H} {W : World} {a : Option Addr} {n c : Nat} {d : DataW H} {p : List MemPlace} (h : DataW.Trod enc Eepg.prog W 0 (fun _ => true) true 23 (.slice a n c) d p) : n ≤ maxLen ∧ ∃ g, IntsAt W a n g := by
  obtain ⟨fuel, hf⟩ := h
  rcases open_ints Eepg.underlying23 Eepg.underlying2 (by kernel_rfl) hf with ⟨hcs, _⟩ | ⟨x, l, c', zs, hcs, _, hl, hm, hz, _, hcell, _⟩
  · simp [Value.cells] at hcs
    obtain ⟨rfl, rfl, rfl⟩ := hcs
    exact ⟨Nat.zero_le _, fun _ => 0, .inl rfl⟩
  · simp [Value.cells] at hcs
    obtain ⟨rfl, rfl, rfl⟩ := hcs
    refine ⟨by omega, fun i => zs.getD i 0, ?_⟩
    by_cases h0 : n = 0
    · exact .inl h0
    · obtain ⟨b, off, spot⟩ := x
      simp at hz
      have hc := hcell 0 (by omega)
      have hspot : spot = none := by simpa [Addr.add] using World.cell?_spot hc
      subst hspot
      refine .inr ⟨b, off, rfl, fun i hi => ?_⟩
      have := hcell i (by omega)
      rwa [Addr.add_lit] at this

end Go.Proofs.Yoeepw
