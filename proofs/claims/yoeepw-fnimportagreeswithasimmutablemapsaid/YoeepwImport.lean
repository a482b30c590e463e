/-
  SEAT oeep: the walk of (*BuiltinModule).Import, and two copies of one module held against one another. Typed by an AI agent. Nothing here is trusted.
-/
import Derived.Test.YoeepwEquals
namespace Go.Proofs.Yoeepw
open Go.RowKit Go.Maps

theorem CopyOf.below {w w' : World} {D E : DataW (Nat × Nat)} {lo : Nat} {name : ByteArray} (h : CopyOf w D E lo name) (hb : Below w.heap.size w w') : CopyOf w' D E lo name := by
  refine ⟨h.size, ?_, h.keys, fun kl hne hk => ?_⟩
  · obtain ⟨q, a, b, c⟩ := h.str
    exact ⟨q, a, b, c.below hb⟩
  · obtain ⟨p, p', v, a, b, c, d, e⟩ := h.ints kl hne hk
    exact ⟨p, p', v, a, b, c, d.below hb, e.below hb⟩

/-- Two copies of one module have the same integers. -/
theorem CopyOf.same {w : World} {D E F : DataW (Nat × Nat)} {lo lo' : Nat} {name name' : ByteArray} (h : CopyOf w D E lo name) (h' : CopyOf w D F lo' name') : ∀ kl, kl ≠ keyLit modKey → Maps.has E kl = true → SameInt w E F kl := by
  intro kl hne hk
  rw [h.keys kl hne] at hk
  obtain ⟨p, p', v, a, b, _, d, e⟩ := h.ints kl hne hk
  obtain ⟨q, q', u, a2, b2, _, d2, e2⟩ := h'.ints kl hne hk
  obtain rfl : p = q := (a.eq a2).2
  have e3 := d.cell.symm.trans d2.cell
  simp at e3
  subst e3
  exact ⟨p', q', v, b, b2, e, e2⟩

theorem CopyOf.sizes {w : World} {D E F : DataW (Nat × Nat)} {lo lo' : Nat} {name name' : ByteArray} (h : CopyOf w D E lo name) (h' : CopyOf w D F lo' name') : Maps.size E = Maps.size F := by rw [h.size, h'.size]

/-- Equals, of two copies of one module. -/
theorem equals_copies (pi bi pj bj : Nat) (D E F : DataW (Nat × Nat)) (lo lo' : Nat) (s s' : ByteArray) (w : World) (hE : ImAt w pi bi E) (hF : ImAt w pj bj F) (h : CopyOf w D E lo s) (h' : CopyOf w D F lo' s') :
    Calls Eepg.prog 15 #[.pointer (some ⟨pi, 0, none⟩), .iface 34 (.pointer (some ⟨pj, 0, none⟩))] w (Compared w s s') := by
  obtain ⟨q, _, hq, hs⟩ := h.str
  obtain ⟨q', _, hq', hs'⟩ := h'.str
  exact equals15 pi bi pj bj q q' E F s s' w hE hF (h.sizes h') (h.same h') hq hq' hs hs'

def Imported (w : World) (D : DataW (Nat × Nat)) (name : ByteArray) (e : Ending) (w' : World) : Prop :=
  ∃ pi bi E, e = .returned (.tuple #[.iface 34 (.pointer (some ⟨pi, 0, none⟩)), .nilIface]) ∧ w.heap.size ≤ pi ∧ ImAt w' pi bi E ∧ CopyOf w' D E w.heap.size name ∧ Below w.heap.size w w'

theorem import12 (pm bm n : Nat) (D : DataW (Nat × Nat)) (name : ByteArray) (w : World) (hm : ModAt w pm bm n D) (hn : n ≤ 4096) :
    Calls Eepg.prog 12 #[.pointer (some ⟨pm, 0, none⟩), .string name] w (Imported w D name) := by
  go_enter Eepg.func12, Eepg.ntmps12
  go_wp2_with fail
  refine (asMap14 pm bm n D name _ hm hn).mono ?_
  rintro e w4 ⟨pi, bi, E, rfl, hpi, him, hcp, hb4⟩
  go_wp2_with fail
  go_ret2
  exact ⟨pi, bi, E, rfl, hpi, him, hcp, hb4⟩

theorem neq31_nil (w : World) : (binOp .neq 31 .nilIface .nilIface).run Eepg.prog w = .ok (.bool false) w := by kernel_rfl

end Go.Proofs.Yoeepw
