/-
  SEAT oeep: the walk of (*BuiltinModule).AsImmutableMap. Typed by an AI agent. Nothing here is trusted.
-/
import Derived.Test.YoeepwModule
namespace Go.Proofs.Yoeepw
open Go.RowKit Go.Maps

/-- The key under which the module's name is laid. -/
def modKey : ByteArray := ⟨#[95, 95, 109, 111, 100, 117, 108, 101, 95, 110, 97, 109, 101, 95, 95]⟩

theorem meth_copy (a : Addr) (w : World) : (method 194 57 (.pointer (some a)) "Copy").run Eepg.prog w = .ok (46, .pointer (some a)) w := by kernel_rfl

/-- Two maps with the same keys have as many entries. -/
theorem size_of_keys {H : Type} {D E : DataW H} (cD : Canon D) (cE : Canon E) (hh : ∀ k, Maps.has D k = Maps.has E k) : Maps.size D = Maps.size E := by
  obtain ⟨l1, rfl, p1, k1⟩ := cD
  obtain ⟨l2, rfl, p2, k2⟩ := cE
  have key : ∀ (l : List (Lit × DataW H)) (_ : ∀ p ∈ l, WideAt.IsKeyLit p.1) (x : Lit × DataW H), x ∈ l.map (fun p => (p.1, DataW.nil)) ↔ x.2 = DataW.nil ∧ WideAt.IsKeyLit x.1 ∧ Maps.has (.map l) x.1 = true := by
    intro l hl x
    rw [has_eq, List.any_eq_true, List.mem_map]
    constructor
    · rintro ⟨p, hp, rfl⟩
      exact ⟨rfl, hl p hp, p, hp, WideAt.sameKey_self (hl p hp)⟩
    · rintro ⟨h2, _, p, hp, hs⟩
      exact ⟨p, hp, Prod.ext (WideAt.sameKey_eq hs) h2.symm⟩
  have e : l1.map (fun p => (p.1, (DataW.nil : DataW H))) = l2.map (fun p => (p.1, DataW.nil)) := by
    refine eq_of_mem_rising (List.pairwise_map.2 p1) (List.pairwise_map.2 p2) fun x => ?_
    rw [key l1 k1 x, key l2 k2 x, hh]
  have := congrArg List.length e
  simpa [size_eq] using this

theorem Owns.canon {w : World} {b n : Nat} {D : DataW (Nat × Nat)} (h : Owns w b n D) : Canon D := World.ownsMap.canon h law9

/-- Block q holds a String whose value is s. -/
def StrBox (w : World) (q : Nat) (s : ByteArray) : Prop := w.heap[q]? = some (.cells #[.string s, .slice none 0 0] 52 (0, 0))
theorem StrBox.cell {w : World} {p : Nat} {v : ByteArray} (h : StrBox w p v) : w.cell? ⟨p, 0, none⟩ = some (.string v) := by
  unfold StrBox at h
  simp [World.cell?, h]
theorem StrBox.lt {w : World} {p : Nat} {v : ByteArray} (h : StrBox w p v) : p < w.heap.size := (Array.getElem?_eq_some_iff.1 h).1
theorem StrBox.below {w w' : World} {p : Nat} {v : ByteArray} (h : StrBox w p v) (hb : Below w.heap.size w w') : StrBox w' p v := (hb.block p h.lt).trans h
theorem StrBox.kept {w w' : World} {row : Option Nat} {p : Nat} {v : ByteArray} (h : StrBox w p v) (hg : w.grownBy w' row) (hr : ∀ j, row = some j → ∀ c t fz, w.heap[j]? ≠ some (.cells c t fz)) : StrBox w' p v := cells_kept h hg hr

/-- In the middle of the loop: E holds a fresh copy of each entry of D that is no longer to come. -/
structure CopyAg (w : World) (D E : DataW (Nat × Nat)) (left : Lit → Bool) (lo : Nat) : Prop where
  keys : ∀ kl, Maps.has E kl = (Maps.has D kl && !left kl)
  ints : ∀ kl, Maps.has E kl = true → ∃ p p' v, At D kl 57 p ∧ At E kl 57 p' ∧ lo ≤ p' ∧ IntBox w p v ∧ IntBox w p' v

theorem CopyAg.kept {w w' : World} {row : Option Nat} {D E : DataW (Nat × Nat)} {left : Lit → Bool} {lo : Nat} (h : CopyAg w D E left lo) (hg : w.grownBy w' row) (hr : ∀ j, row = some j → ∀ c t fz, w.heap[j]? ≠ some (.cells c t fz)) : CopyAg w' D E left lo :=
  ⟨h.keys, fun kl hk => by
    obtain ⟨p, p', v, a, b, c, d, e⟩ := h.ints kl hk
    exact ⟨p, p', v, a, b, c, d.kept hg hr, e.kept hg hr⟩⟩
theorem CopyAg.below {w w' : World} {D E : DataW (Nat × Nat)} {left : Lit → Bool} {lo : Nat} (h : CopyAg w D E left lo) (hb : Below w.heap.size w w') : CopyAg w' D E left lo :=
  ⟨h.keys, fun kl hk => by
    obtain ⟨p, p', v, a, b, c, d, e⟩ := h.ints kl hk
    exact ⟨p, p', v, a, b, c, d.below hb, e.below hb⟩⟩
theorem CopyAg.step {w : World} {D E : DataW (Nat × Nat)} {left : Lit → Bool} {lo : Nat} (h : CopyAg w D E left lo) (hE : IsMap E) {s : ByteArray} {p p' : Nat} {v : Int} (hat : At D (keyLit s) 57 p) (hlo : lo ≤ p') (h1 : IntBox w p v) (h2 : IntBox w p' v) :
    CopyAg w D (E.put (keyLit s) (.held (57, p'))) (fun z => left z && !z.sameKey (keyLit s)) lo := by
  refine ⟨fun kl => ?_, fun kl hk => ?_⟩
  · by_cases e : kl = keyLit s
    · subst e
      rw [has_put_same hE (isKey s), hat.has, WideAt.sameKey_self (isKey s)]
      simp
    · rw [has_put_other e, h.keys, sameKey_ne e]
      simp
  · by_cases e : kl = keyLit s
    · subst e
      exact ⟨p, p', v, hat, At.put_same hE s 57 p', hlo, h1, h2⟩
    · rw [has_put_other e] at hk
      obtain ⟨q, q', u, a, b, c, d, e'⟩ := h.ints kl hk
      exact ⟨q, q', u, a, b.put_other e, c, d, e'⟩

/-- An ImmutableMap: its struct lies in block pi, its map in block bi. -/
structure ImAt (w : World) (pi bi : Nat) (E : DataW (Nat × Nat)) : Prop where
  owns : Owns w bi 5000 E
  box : w.heap[pi]? = some (.cells #[.map (some bi)] 42 (0, 0))

/-- E is D with fresh integers and the name laid at its key. -/
structure CopyOf (w : World) (D E : DataW (Nat × Nat)) (lo : Nat) (name : ByteArray) : Prop where
  size : Maps.size E = if Maps.has D (keyLit modKey) then Maps.size D else Maps.size D + 1
  str : ∃ q, lo ≤ q ∧ At E (keyLit modKey) 45 q ∧ StrBox w q name
  keys : ∀ kl, kl ≠ keyLit modKey → Maps.has E kl = Maps.has D kl
  ints : ∀ kl, kl ≠ keyLit modKey → Maps.has D kl = true → ∃ p p' v, At D kl 57 p ∧ At E kl 57 p' ∧ lo ≤ p' ∧ IntBox w p v ∧ IntBox w p' v

def Copied (w : World) (D : DataW (Nat × Nat)) (name : ByteArray) (e : Ending) (w' : World) : Prop :=
  ∃ pi bi E, e = .returned (.pointer (some ⟨pi, 0, none⟩)) ∧ w.heap.size ≤ pi ∧ ImAt w' pi bi E ∧ CopyOf w' D E w.heap.size name ∧ Below w.heap.size w w'

theorem copied_end {w wr w2 : World} {D E : DataW (Nat × Nat)} {left : Lit → Bool} {m : Nat} {name : ByteArray} (hout : Owns wr w.heap.size m E) (hA : CopyAg wr D E left w.heap.size) (hnx : Below w.heap.size w wr)
    (hb2 : Below wr.heap.size wr (wr.alloc (.cells #[.string name, .slice none 0 0] 52))) (hout2 : Owns (wr.alloc (.cells #[.string name, .slice none 0 0] 52)) w.heap.size m E)
    (hout3 : Owns w2 w.heap.size (m + 1) (E.put (keyLit ⟨#[95, 95, 109, 111, 100, 117, 108, 101, 95, 110, 97, 109, 101, 95, 95]⟩) (.held (45, wr.heap.size)))) (hg2 : (wr.alloc (.cells #[.string name, .slice none 0 0] 52)).grownBy w2 (some w.heap.size))
    (HE : Hid (Maps.size E = Maps.size D)) (HK : Hid (∀ kl, Maps.has E kl = Maps.has D kl)) (hm : m ≤ 4096) :
    Copied w D name (.returned (.pointer (some ⟨w2.heap.size, 0, none⟩))) (w2.alloc (.cells #[.map (some w.heap.size)] 42)) := by
  have hout3' : Owns w2 w.heap.size (m + 1) (E.put (keyLit modKey) (.held (45, wr.heap.size))) := hout3
  have hb3 : Below w2.heap.size w2 (w2.alloc (.cells #[.map (some w.heap.size)] 42)) := (Below.refl _ _).alloc (Nat.le_refl _) _
  have hno := map_no_cells hout2
  have hA3 := ((hA.below hb2).kept hg2 hno).below hb3
  have hst : StrBox (wr.alloc (.cells #[.string name, .slice none 0 0] 52)) wr.heap.size name := heap_alloc_new wr _
  have hwr := hnx.size
  have hw2 : wr.heap.size + 1 ≤ w2.heap.size := by have := hg2.size; simpa using this
  refine ⟨w2.heap.size, w.heap.size, _, rfl, by omega, ⟨(hout3'.below hb3).mono (by omega), heap_alloc_new w2 _⟩, ⟨?_, ?_, ?_, ?_⟩, ?_⟩
  · rw [size_put hout.tidy, HK.out, HE.out]
  · exact ⟨wr.heap.size, hwr, At.put_same hout.isMap _ _ _, (hst.kept hg2 hno).below hb3⟩
  · intro kl hne
    rw [has_put_other hne, HK.out]
  · intro kl hne hk
    rw [← HK.out] at hk
    obtain ⟨p, p', v, a, b, c, d, e⟩ := hA3.ints kl hk
    exact ⟨p, p', v, a, b.put_other hne, c, d, e⟩
  · exact ((hnx.alloc hwr _).grown hg2 (by simp; omega) (fun j hj => by cases hj; exact Nat.le_refl _)).alloc (by omega) _

set_option maxRecDepth 100000 in
set_option maxHeartbeats 1000000 in
theorem asMap14 (pm bm n : Nat) (D : DataW (Nat × Nat)) (name : ByteArray) (w : World) (hm : ModAt w pm bm n D) (hn : n ≤ 4096) :
    Calls Eepg.prog 14 #[.pointer (some ⟨pm, 0, none⟩), .string name] w (Copied w D name) := by
  obtain ⟨hown, hbox, hel⟩ := hm
  have hcell : w.cell? ⟨pm, 0, none⟩ = some (.map (some bm)) := by simp [World.cell?, hbox]
  have hcell1 : (w.alloc (.map #[] 0)).cell? ⟨pm, 0, none⟩ = some (.map (some bm)) := cell_later ((Below.refl _ _).alloc (Nat.le_refl _) _) hcell
  have hown1 : Owns (w.alloc (.map #[] 0)) bm n D := hown.below ((Below.refl _ _).alloc (Nat.le_refl _) _)
  have hmm := makeMap_some
  have hlt := hown.lt
  have e1 : (w.alloc (.map #[] 0)).heap.size = w.heap.size + 1 := by simp
  go_enter Eepg.func14, Eepg.ntmps14
  go_wp2_with (first
    | (at_len; refine wpList_len_own _ rfl _ 40 rfl 9 49 Eepg.underlying40 _ bm n D rfl hown ?_)
    | (at_range; refine wpList_range_own _ rfl _ 40 rfl 9 49 law9 Eepg.underlying40 _ bm n D rfl hown1 ?_; intro w0 hrg0 hg0 hs0)
    | go_in)
  go_frame
  rw [e1] at hrg0 hs0 ⊢
  clear hown1 hcell1 hcell
  go_loopw [6] (fun _ wr => ∃ (left : Lit → Bool) (cnt : Nat) (E : DataW (Nat × Nat)), Ranges wr bm (w.heap.size + 1) n D left cnt ∧ cnt ≤ Maps.size D ∧
      Owns wr w.heap.size (Maps.size D - cnt) E ∧ CopyAg wr D E left w.heap.size ∧ Below w.heap.size w wr)
    (fun _ wr => wr.rangeLeft bm (w.heap.size + 1))
  case atStart =>
    exact ⟨_, _, .map [], hrg0, Nat.le_refl _, ((World.ownsMap_made _ _ _ _).kept hg0 (by simp)).mono (Nat.zero_le _), ⟨fun kl => by simp [Maps.has], fun kl hk => by simp [Maps.has] at hk⟩, ((Below.refl _ _).alloc (Nat.le_refl _) _).grown hg0 (by simp) (fun j hj => by cases hj)⟩
  case round =>
    obtain ⟨left, cnt, E, hrg, hcs, hout, hA, hnx⟩ := hrel
    clear hrg0 hg0 hs0 e1
    have hsz := hown.size_le
    go_wp2_with (first
      | (at_next; refine wpList_next_obj _ rfl _ rfl bm (w.heap.size + 1) n D left cnt rfl hrg (fun kl hk => by obtain ⟨p, v, h1, _⟩ := hel kl hk; exact ⟨57, p, h1, .inl rfl⟩) ?_ ?_ ?_)
      | go_in)
    · intro hl0
      have hkeys : ∀ kl, Maps.has E kl = Maps.has D kl := fun kl => by rw [hA.keys, hl0]; simp
      have hE : Maps.size E = Maps.size D := size_of_keys hout.canon hown.canon hkeys
      have hb2 : Below wr.heap.size wr (wr.alloc (.cells #[.string name, .slice none 0 0] 52)) := (Below.refl _ _).alloc (Nat.le_refl _) _
      have hout2 := hout.below hb2
      obtain ⟨w2, hrun, hout3, hg2⟩ := hout2.update (by unfold maxLen; omega) (s := ⟨#[95, 95, 109, 111, 100, 117, 108, 101, 95, 110, 97, 109, 101, 95, 95]⟩) (by decide) 45 wr.heap.size
      have HE : Hid (Maps.size E = Maps.size D) := hE
      have HK : Hid (∀ kl, Maps.has E kl = Maps.has D kl) := hkeys
      clear hE hkeys hmm hl0
      go_wp2
      go_ret
      exact copied_end hout hA hnx hb2 hout2 hout3 hg2 HE HK (by omega)
    · intro x p w1 cnt1 hx hlk hat hrg1 hlt1 hg1 hs1 hen
      obtain ⟨p', v, hat', hbx⟩ := hel _ hat.has
      obtain rfl : p' = p := (hat'.eq hat).2
      have hmt := meth_copy
      have hbx1 : IntBox w1 p' v := (hbx.below hnx).kept hg1 (iter_no_cells hrg)
      have hA1 := hA.kept hg1 (iter_no_cells hrg)
      have hout1 : Owns w1 w.heap.size (Maps.size D - cnt) E := hout.kept hg1 (by simp)
      have hnx1 : Below w.heap.size w w1 := hnx.grown hg1 hnx.size (fun j hj => by cases hj; exact Nat.le_succ _)
      have hout2 : Owns (w1.alloc (.cells #[.int .i64 v] 61)) w.heap.size (Maps.size D - cnt) E := hout1.below ((Below.refl _ _).alloc (Nat.le_refl _) _)
      obtain ⟨w2, hrun, hout3, hg2⟩ := hout2.update (by unfold maxLen; omega) hx 57 w1.heap.size
      clear hmm hs1
      go_wp2_with (go_at_call 46; refine (intCopy p' v _ hbx1.cell).mono ?_; rintro e w' ⟨rfl, rfl⟩)
      have hno := map_no_cells hout2
      have hb2 : Below w1.heap.size w1 (w1.alloc (.cells #[.int .i64 v] 61)) := (Below.refl _ _).alloc (Nat.le_refl _) _
      have hw1 : w.heap.size < w1.heap.size := hout1.lt
      have hrg2 : Ranges w2 bm (w.heap.size + 1) n D (fun z => left z && !z.sameKey (keyLit x)) cnt1 := (hrg1.below hb2).kept hg2 (fun e => by have := Option.some.inj e; omega) (fun e => by have := Option.some.inj e; omega)
      have hA2 := CopyAg.step ((hA1.below hb2).kept hg2 hno) hout.isMap hat hnx1.size ((hbx1.below hb2).kept hg2 hno) ((IntBox.alloc w1 v).kept hg2 hno)
      go_roundw
      case rel =>
        exact ⟨_, cnt1, _, hrg2, by omega, hout3.mono (by omega), hA2, (hnx1.alloc hnx1.size _).grown hg2 (by simp; omega) (fun j hj => by cases hj; exact Nat.le_refl _)⟩
      case measure => rw [hrg2.left_eq, hrg.left_eq]; exact hlt1
    · intro x p w1 cnt1 hx hlk hat
      obtain ⟨p', v, hat', _⟩ := hel _ hat.has
      exact absurd (hat'.eq hat).1 (by decide)

end Go.Proofs.Yoeepw
