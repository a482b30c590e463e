/-
  SEAT oeep: what the four laws share: worlds that only grow, keys, pointers that differ. Typed by an AI agent. Nothing here is trusted.
-/
import Derived.Test.YoeepwAsMap
import Derived.LaidEqlPtr
namespace Go.Proofs.Yoeepw
open Go.RowKit Go.Maps

/-- The callee's world by its caller's name. -/
theorem sameWorld {P : Program} {k : FuncId} {args : Array Value} {w : World} {A : Ending → Prop} (h : Calls P k args w fun e w' => A e ∧ w' = w) : Calls P k args w fun e w' => A e ∧ w = w' := h.mono fun _ _ ⟨a, b⟩ => ⟨a, b.symm⟩

/-- What every law leaves: true, and nothing old has turned. -/
def Lawful (w : World) (e : Ending) (w' : World) : Prop := e = .returned (.bool true) ∧ Below w.heap.size w w'

theorem StrsAt.below {w w' : World} {a : Option Addr} {n : Nat} {f : Nat → ByteArray} (h : StrsAt w a n f) (hb : Below w.heap.size w w') : StrsAt w' a n f := by
  rcases h with h | ⟨b, off, h, hc⟩
  · exact .inl h
  · exact .inr ⟨b, off, h, fun i hi => ⟨cell_later hb (hc i hi).1, (hc i hi).2⟩⟩
theorem IntsAt.below {w w' : World} {a : Option Addr} {n : Nat} {g : Nat → Int} (h : IntsAt w a n g) (hb : Below w.heap.size w w') : IntsAt w' a n g := by
  rcases h with h | ⟨b, off, h, hc⟩
  · exact .inl h
  · exact .inr ⟨b, off, h, fun i hi => cell_later hb (hc i hi)⟩
theorem ModAt.below {w w' : World} {pm bm n : Nat} {D : DataW (Nat × Nat)} (h : ModAt w pm bm n D) (hb : Below w.heap.size w w') : ModAt w' pm bm n D :=
  ⟨h.owns.below hb, (hb.block pm (Array.getElem?_eq_some_iff.1 h.box).1).trans h.box, h.elems.below hb⟩
theorem ModAt.cell {w : World} {pm bm n : Nat} {D : DataW (Nat × Nat)} (h : ModAt w pm bm n D) : w.cell? ⟨pm, 0, none⟩ = some (.map (some bm)) := by simp [World.cell?, h.box]
theorem ImAt.below {w w' : World} {pm bm : Nat} {D : DataW (Nat × Nat)} (h : ImAt w pm bm D) (hb : Below w.heap.size w w') : ImAt w' pm bm D :=
  ⟨h.owns.below hb, (hb.block pm (Array.getElem?_eq_some_iff.1 h.box).1).trans h.box⟩
theorem ImAt.cell {w : World} {pm bm : Nat} {D : DataW (Nat × Nat)} (h : ImAt w pm bm D) : w.cell? ⟨pm, 0, none⟩ = some (.map (some bm)) := by simp [World.cell?, h.box]

theorem ne_modKey {s : ByteArray} (h : (s.toList == [95, 95, 109, 111, 100, 117, 108, 101, 95, 110, 97, 109, 101, 95, 95]) = false) : keyLit s ≠ keyLit modKey := by
  intro e
  rw [keyLit_inj e, ByteArray.toList_eq] at h
  exact absurd h (by decide)

/-- At a key that is there, and is not the name's: the two integers, apart, and the same. -/
theorem CopyOf.pair {w3 w4 : World} {D E : DataW (Nat × Nat)} {name : ByteArray} (hcp : CopyOf w4 D E w3.heap.size name) (hM : ModElems w3 D) {kl : Lit} (hk : Maps.has D kl = true) (hne : kl ≠ keyLit modKey) :
    ∃ p p' v, At D kl 57 p ∧ At E kl 57 p' ∧ p ≠ p' ∧ IntBox w4 p v ∧ IntBox w4 p' v := by
  obtain ⟨p, p', v, a, b, c, d, e⟩ := hcp.ints kl hne hk
  obtain ⟨q, u, a', hq⟩ := hM kl hk
  have := (a.eq a').2
  have := hq.lt
  exact ⟨p, p', v, a, b, by omega, d, e⟩

theorem info61 : (Eepg.prog.info? 61).map (fun i => (i.zero, i.size, i.bytes)) = some (some (.agg #[.int .i64 0]), 1, 8) := by kernel_rfl
theorem info42 : (Eepg.prog.info? 42).map (fun i => (i.zero, i.size, i.bytes)) = some (some (.agg #[.map none]), 1, 8) := by kernel_rfl

/-- Two integers' pointers that differ. -/
theorem eql57_other {w : World} {p q : Nat} {v u : Int} (hp : IntBox w p v) (hq : IntBox w q u) (hne : p ≠ q) : (binOp .eql 57 (.pointer (some ⟨p, 0, none⟩)) (.pointer (some ⟨q, 0, none⟩))).run Eepg.prog w = .ok (.bool false) w := by
  obtain ⟨i0, hi, _, hz1, _⟩ := info_parts info61
  exact run_eql_ptr_other w Eepg.underlying57 hi (by rw [hz1]; decide) (fun e => hne (congrArg Addr.block e)) hp hq

theorem eql34_other {w : World} {p q : Nat} {bp bq : Nat} {D E : DataW (Nat × Nat)} (hp : ImAt w p bp D) (hq : ImAt w q bq E) (hne : p ≠ q) : (binOp .eql 34 (.pointer (some ⟨p, 0, none⟩)) (.pointer (some ⟨q, 0, none⟩))).run Eepg.prog w = .ok (.bool false) w := by
  obtain ⟨i0, hi, _, hz1, _⟩ := info_parts info42
  exact run_eql_ptr_other w Eepg.underlying34 hi (by rw [hz1]; decide) (fun e => hne (congrArg Addr.block e)) hp.box hq.box

end Go.Proofs.Yoeepw
