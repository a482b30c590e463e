/-
  SEAT oeep: maps from strings to objects: the reader of an element, the laws at the operations. Typed by an AI agent. Nothing here is trusted.
-/
import Derived.Test.YoeepwClone
namespace Go.Proofs.Yoeepw
open Go.RowKit Go.Maps

/-- How an element of type Object reads: nil, or a dynamic type and the block that its pointer leads to. -/
def objElem (v : Value) : Option (DataW (Nat × Nat) × List MemPlace) :=
  match v with
  | .nilIface => some (.nil, [])
  | .iface t (.pointer (some ⟨p, 0, none⟩)) => some (.held (t, p), [])
  | _ => none

theorem objElem_mk (t p : Nat) : objElem (.iface t (.pointer (some ⟨p, 0, none⟩))) = some (.held (t, p), []) := rfl
theorem objElem_nil : objElem .nilIface = some (.nil, []) := rfl

theorem objElem_inv {v : Value} {t p : Nat} {ps : List MemPlace} (h : objElem v = some (.held (t, p), ps)) : v = .iface t (.pointer (some ⟨p, 0, none⟩)) := by
  unfold objElem at h
  split at h
  · simp at h
  · simp at h
    obtain ⟨⟨rfl, rfl⟩, _⟩ := h
    rfl
  · cases h

/-- Block b is a map of at most n entries that reads as D. -/
def Owns (w : World) (b n : Nat) (D : DataW (Nat × Nat)) : Prop := w.ownsMap Eepg.prog 9 objElem b n D

/-- At the key kl lies a pointer to block p under the dynamic type t. -/
def At (D : DataW (Nat × Nat)) (kl : Lit) (t p : Nat) : Prop := ∀ z, D.atKey kl z = .held (t, p)

/-- What a string reads as, as a key. -/
def keyLit (s : ByteArray) : Lit := .string s.data.toList

theorem key_mk {s : ByteArray} (h : s.size ≤ maxLen) : keyOf Eepg.prog 9 (.string s) = some (keyLit s) := WideMaps.keyOf_string_mk Eepg.underlying9 h

theorem key_inv {key : Value} {kl : Lit} (h : keyOf Eepg.prog 9 key = some kl) : ∃ s : ByteArray, key = .string s ∧ kl = keyLit s ∧ s.size ≤ maxLen := by
  cases key <;> simp [keyOf, Eepg.underlying9, mapKey] at h
  exact ⟨_, rfl, h.2.symm, h.1⟩

theorem keyLit_inj {s t : ByteArray} (h : keyLit s = keyLit t) : s = t := by
  cases s; cases t
  simp only [keyLit, Lit.string.injEq] at h
  rw [Array.ext' h]

theorem isKey (s : ByteArray) : WideAt.IsKeyLit (keyLit s) := trivial

theorem At.has {D : DataW (Nat × Nat)} {kl : Lit} {t p : Nat} (h : At D kl t p) : Maps.has D kl = true := has_true_of_atKey h

theorem At.eq {D : DataW (Nat × Nat)} {kl : Lit} {t p t' p' : Nat} (h : At D kl t p) (h' : At D kl t' p') : t = t' ∧ p = p' := by
  have e := (h .nil).symm.trans (h' .nil)
  simpa using e

/-- 'm[s]', s a key that is there. -/
theorem run_look {w : World} {b n : Nat} {D : DataW (Nat × Nat)} {s : ByteArray} {t p : Nat} (h : Owns w b n D) (hs : s.size ≤ maxLen) (hat : At D (keyLit s) t p) :
    (Instr.lookup 40 (.map (some b)) (.string s) false).run Eepg.prog w = .ok (.iface t (.pointer (some ⟨p, 0, none⟩))) w := by
  obtain ⟨v, ps, hrun, hv⟩ := World.ownsMap.lookup h law9 Eepg.underlying40 (zero49 w) objElem_nil (key_mk hs)
  rw [hat] at hv
  rw [hrun, objElem_inv hv]

/-- '_, ok := m[s]'. -/
theorem run_look_ok {w : World} {b n : Nat} {D : DataW (Nat × Nat)} {s : ByteArray} (h : Owns w b n D) (hs : s.size ≤ maxLen) :
    ∃ v, (Instr.lookup 40 (.map (some b)) (.string s) true).run Eepg.prog w = .ok (.tuple #[v, .bool (Maps.has D (keyLit s))]) w := by
  obtain ⟨v, ps, hrun, _⟩ := World.ownsMap.look_ok h law9 Eepg.underlying40 (zero49 w) objElem_nil (key_mk hs)
  exact ⟨v, hrun⟩

theorem Owns.kept {w w' : World} {row : Option Nat} {b n : Nat} {D : DataW (Nat × Nat)} (h : Owns w b n D) (hg : w.grownBy w' row) (hne : some b ≠ row) : Owns w' b n D := World.ownsMap.kept h hg hne
theorem Owns.lt {w : World} {b n : Nat} {D : DataW (Nat × Nat)} (h : Owns w b n D) : b < w.heap.size := World.ownsMap.lt h
theorem Owns.below {w w' : World} {b n : Nat} {D : DataW (Nat × Nat)} (h : Owns w b n D) (hb : Below w.heap.size w w') : Owns w' b n D := by
  have hlt := h.lt
  obtain ⟨es, clock, he, F, hs, hD⟩ := h
  exact ⟨es, clock, (hb.block b hlt).trans he, F, hs, hD⟩

theorem makeMap_some (n : Int) (w : World) : (Instr.makeMap 40 (some (.int .i64 n))).run Eepg.prog w = .ok (.map (some w.heap.size)) (w.alloc (.map #[] 0)) := by kernel_rfl

/-- A block that holds cells is there as it was, where what is written is a map or an iterator. -/
theorem cells_kept {w w' : World} {row : Option Nat} {p : Nat} {c : Array Value} {t : TypeId} {fz : Nat × Nat} (h : w.heap[p]? = some (.cells c t fz)) (hg : w.grownBy w' row) (hr : ∀ j, row = some j → ∀ c t fz, w.heap[j]? ≠ some (.cells c t fz)) : w'.heap[p]? = some (.cells c t fz) := by
  have hlt := (Array.getElem?_eq_some_iff.1 h).1
  exact (hg.block p hlt (fun e => hr p e.symm c t fz h)).trans h

theorem map_no_cells {w : World} {b n : Nat} {D : DataW (Nat × Nat)} (h : Owns w b n D) : ∀ j, some b = some j → ∀ c t fz, w.heap[j]? ≠ some (.cells c t fz) := by
  intro j e c t fz hc
  cases e
  obtain ⟨es, clock, he, _⟩ := h
  rw [he] at hc
  cases hc

/-- 'm[s] = x'. -/
theorem Owns.update {w : World} {b n : Nat} {D : DataW (Nat × Nat)} (h : Owns w b n D) (hn : n < maxLen) {s : ByteArray} (hs : s.size ≤ maxLen) (t p : Nat) :
    ∃ w', (Instr.mapUpdate 40 (.map (some b)) (.string s) (.iface t (.pointer (some ⟨p, 0, none⟩)))).run Eepg.prog w = .ok () w' ∧ Owns w' b (n + 1) (D.put (keyLit s) (.held (t, p))) ∧ w.grownBy w' (some b) :=
  World.ownsMap.update h law9 Eepg.underlying40 hn (key_mk hs) (objElem_mk t p)

theorem Owns.isMap {w : World} {b n : Nat} {D : DataW (Nat × Nat)} (h : Owns w b n D) : IsMap D := World.ownsMap.isMap h
theorem Owns.tidy {w : World} {b n : Nat} {D : DataW (Nat × Nat)} (h : Owns w b n D) : Tidy D := World.ownsMap.tidy h law9
theorem Owns.mono {w : World} {b n n' : Nat} {D : DataW (Nat × Nat)} (h : Owns w b n D) (hn : n ≤ n') : Owns w b n' D := World.ownsMap.mono h hn
theorem Owns.size_le {w : World} {b n : Nat} {D : DataW (Nat × Nat)} (h : Owns w b n D) : Maps.size D ≤ n := World.ownsMap.size_le h

theorem At.put_same {D : DataW (Nat × Nat)} (hD : IsMap D) (s : ByteArray) (t p : Nat) : At (D.put (keyLit s) (.held (t, p))) (keyLit s) t p := fun z => atKey_put_same hD (isKey s) _ z
theorem At.put_other {D : DataW (Nat × Nat)} {kl : Lit} {s : ByteArray} (hne : kl ≠ keyLit s) {d : DataW (Nat × Nat)} {t p : Nat} (h : At D kl t p) : At (D.put (keyLit s) d) kl t p := fun z => (atKey_put_other hne d z).trans (h z)

/-- 'range' under way over such a map. -/
def Ranges (w : World) (b r n : Nat) (D : DataW (Nat × Nat)) (left : Lit → Bool) (cnt : Nat) : Prop := w.ranges Eepg.prog 9 objElem b r n D left cnt

theorem Ranges.owns {w : World} {b r n : Nat} {D : DataW (Nat × Nat)} {left : Lit → Bool} {cnt : Nat} (h : Ranges w b r n D left cnt) : Owns w b n D := World.ranges.owns h
theorem Ranges.lt {w : World} {b r n : Nat} {D : DataW (Nat × Nat)} {left : Lit → Bool} {cnt : Nat} (h : Ranges w b r n D left cnt) : r < w.heap.size := World.ranges.lt h
theorem Ranges.left_eq {w : World} {b r n : Nat} {D : DataW (Nat × Nat)} {left : Lit → Bool} {cnt : Nat} (h : Ranges w b r n D left cnt) : w.rangeLeft b r = cnt := World.ranges.left_eq h
theorem Ranges.kept {w w' : World} {row : Option Nat} {b r n : Nat} {D : DataW (Nat × Nat)} {left : Lit → Bool} {cnt : Nat} (h : Ranges w b r n D left cnt) (hg : w.grownBy w' row) (hb' : some b ≠ row) (hr' : some r ≠ row) : Ranges w' b r n D left cnt := World.ranges.kept h hg hb' hr'
theorem Ranges.below {w w' : World} {b r n : Nat} {D : DataW (Nat × Nat)} {left : Lit → Bool} {cnt : Nat} (h : Ranges w b r n D left cnt) (hb : Below w.heap.size w w') : Ranges w' b r n D left cnt := by
  have h1 := h.owns.lt
  have h2 := h.lt
  obtain ⟨es, clock, since, seen, c0, hb1, F, hs, hD, hr, rest⟩ := h
  exact ⟨es, clock, since, seen, c0, (hb.block b h1).trans hb1, F, hs, hD, (hb.block r h2).trans hr, rest⟩
theorem iter_no_cells {w : World} {b r n : Nat} {D : DataW (Nat × Nat)} {left : Lit → Bool} {cnt : Nat} (h : Ranges w b r n D left cnt) : ∀ j, some r = some j → ∀ c t fz, w.heap[j]? ≠ some (.cells c t fz) := by
  intro j e c t fz hc
  cases e
  obtain ⟨es, clock, since, seen, c0, _, _, _, _, hr, _⟩ := h
  rw [hr] at hc
  cases hc

/-- The step of a range loop: nothing is left, or an entry comes out: an object of type 57 or of type 45. -/
theorem wpList_next_obj (w : World) {ops : Array Oper} {rest : List Oper} {o : Oper} {a : Act} {Q : Exit → Act → World → Prop} (hg : o.guard = none) (it : Operand) (hop : o.op = Op.next it false)
    (b r n : Nat) (D : DataW (Nat × Nat)) (left : Lit → Bool) (cnt : Nat) (hit : a.eval it = .pointer (some ⟨r, 0, none⟩)) (h : Ranges w b r n D left cnt)
    (hel : ∀ kl, Maps.has D kl = true → ∃ t p, At D kl t p ∧ (t = 57 ∨ t = 45))
    (hDone : (∀ kl, left kl = false) → wpList Eepg.prog ops Q rest (a.put o.dst (.tuple #[.bool false])) w)
    (hInt : ∀ (x : ByteArray) (p : Nat) (w' : World) (cnt' : Nat), x.size ≤ maxLen → left (keyLit x) = true → At D (keyLit x) 57 p → Ranges w' b r n D (fun z => left z && !z.sameKey (keyLit x)) cnt' → cnt' < cnt → w.grownBy w' (some r) → w'.heap.size = w.heap.size →
      (Instr.entry (.pointer (some ⟨r, 0, none⟩))).run Eepg.prog w' = .ok (.tuple #[.string x, .iface 57 (.pointer (some ⟨p, 0, none⟩))]) w' → wpList Eepg.prog ops Q rest (a.put o.dst (.tuple #[.bool true, .string x, .iface 57 (.pointer (some ⟨p, 0, none⟩))])) w')
    (hStr : ∀ (x : ByteArray) (p : Nat) (w' : World) (cnt' : Nat), x.size ≤ maxLen → left (keyLit x) = true → At D (keyLit x) 45 p → Ranges w' b r n D (fun z => left z && !z.sameKey (keyLit x)) cnt' → cnt' < cnt → w.grownBy w' (some r) → w'.heap.size = w.heap.size →
      (Instr.entry (.pointer (some ⟨r, 0, none⟩))).run Eepg.prog w' = .ok (.tuple #[.string x, .iface 45 (.pointer (some ⟨p, 0, none⟩))]) w' → wpList Eepg.prog ops Q rest (a.put o.dst (.tuple #[.bool true, .string x, .iface 45 (.pointer (some ⟨p, 0, none⟩))])) w') :
    wpList Eepg.prog ops Q (o :: rest) a w := by
  refine wpList_plain hg fun K' hK' => ?_
  unfold Oper.wp
  rcases World.ranges.next h law9 o.type with ⟨h0, hl, hrun⟩ | ⟨key, v, kl, y, w', cnt', hkey, hlk, hv, hat, hrun, hrg, hlt, hgr, hsz, hen⟩
  · simp [execOp, hop, hit, hrun, Result.andThen]
    exact hK' _ _ (hDone hl)
  · obtain ⟨x, rfl, rfl, hx⟩ := key_inv hkey
    obtain ⟨t, p, hp, ht⟩ := hel _ (has_true_of_atKey hat)
    have e1 : y.1 = .held (t, p) := by rw [← hat .nil, hp .nil]
    have e2 : objElem v = some (.held (t, p), y.2) := by rw [hv, ← e1]
    have e3 := objElem_inv e2
    subst e3
    simp [execOp, hop, hit, hrun, Result.andThen]
    rcases ht with rfl | rfl
    · exact hK' _ _ (hInt x p w' cnt' hx hlk hp hrg hlt hgr hsz hen)
    · exact hK' _ _ (hStr x p w' cnt' hx hlk hp hrg hlt hgr hsz hen)

end Go.Proofs.Yoeepw
