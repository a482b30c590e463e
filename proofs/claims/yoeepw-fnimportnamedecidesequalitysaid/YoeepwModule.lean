/-
  SEAT oeep: the walk of zzModule. Typed by an AI agent. Nothing here is trusted.
-/
import Derived.Test.YoeepwMap
namespace Go.Proofs.Yoeepw
open Go.RowKit Go.Maps

/-- Block p holds one integer, v. -/
def IntBox (w : World) (p : Nat) (v : Int) : Prop := w.heap[p]? = some (.cells #[.int .i64 v] 61 (0, 0))
/-- Every element of D is a pointer to an integer. -/
def ModElems (w : World) (D : DataW (Nat × Nat)) : Prop := ∀ kl, Maps.has D kl = true → ∃ p v, At D kl 57 p ∧ IntBox w p v

theorem IntBox.cell {w : World} {p : Nat} {v : Int} (h : IntBox w p v) : w.cell? ⟨p, 0, none⟩ = some (.int .i64 v) := by
  unfold IntBox at h
  simp [World.cell?, h]
theorem IntBox.lt {w : World} {p : Nat} {v : Int} (h : IntBox w p v) : p < w.heap.size := (Array.getElem?_eq_some_iff.1 h).1
theorem IntBox.below {w w' : World} {p : Nat} {v : Int} (h : IntBox w p v) (hb : Below w.heap.size w w') : IntBox w' p v := (hb.block p h.lt).trans h
theorem IntBox.kept {w w' : World} {row : Option Nat} {p : Nat} {v : Int} (h : IntBox w p v) (hg : w.grownBy w' row) (hr : ∀ j, row = some j → ∀ c t fz, w.heap[j]? ≠ some (.cells c t fz)) : IntBox w' p v := cells_kept h hg hr
theorem IntBox.alloc (w : World) (v : Int) : IntBox (w.alloc (.cells #[.int .i64 v] 61)) w.heap.size v := heap_alloc_new w _

theorem ModElems.below {w w' : World} {D : DataW (Nat × Nat)} (h : ModElems w D) (hb : Below w.heap.size w w') : ModElems w' D := fun kl hk => by
  obtain ⟨p, v, h1, h2⟩ := h kl hk
  exact ⟨p, v, h1, h2.below hb⟩
theorem ModElems.kept {w w' : World} {row : Option Nat} {D : DataW (Nat × Nat)} (h : ModElems w D) (hg : w.grownBy w' row) (hr : ∀ j, row = some j → ∀ c t fz, w.heap[j]? ≠ some (.cells c t fz)) : ModElems w' D := fun kl hk => by
  obtain ⟨p, v, h1, h2⟩ := h kl hk
  exact ⟨p, v, h1, h2.kept hg hr⟩
theorem ModElems.put {w : World} {D : DataW (Nat × Nat)} (h : ModElems w D) (hD : IsMap D) (s : ByteArray) {p : Nat} {v : Int} (hp : IntBox w p v) : ModElems w (D.put (keyLit s) (.held (57, p))) := fun kl hk => by
  by_cases e : kl = keyLit s
  · subst e
    exact ⟨p, v, At.put_same hD s 57 p, hp⟩
  · rw [has_put_other e] at hk
    obtain ⟨p', v', h1, h2⟩ := h kl hk
    exact ⟨p', v', h1.put_other e, h2⟩

/-- A module: its struct lies in block pm, its map in block bm, which reads as D; each element is an integer's pointer. -/
structure ModAt (w : World) (pm bm n : Nat) (D : DataW (Nat × Nat)) : Prop where
  owns : Owns w bm n D
  box : w.heap[pm]? = some (.cells #[.map (some bm)] 56 (0, 0))
  elems : ModElems w D

/-- What zzModule leaves. -/
def Moduled (w : World) (n : Nat) (f : Nat → ByteArray) (e : Ending) (w' : World) : Prop :=
  ∃ pm bm D, e = .returned (.pointer (some ⟨pm, 0, none⟩)) ∧ ModAt w' pm bm n D ∧ (∀ i, i < n → Maps.has D (keyLit (f i)) = true) ∧ Below w.heap.size w w'

set_option maxHeartbeats 1000000 in
theorem module11 (a1 : Option Addr) (n1 c1 : Nat) (a2 : Option Addr) (n2 c2 : Nat) (f : Nat → ByteArray) (g : Nat → Int) (w : World) (hn1 : n1 ≤ 4096) (h1 : StrsAt w a1 n1 f) (h2 : IntsAt w a2 n2 g) :
    Calls Eepg.prog 11 #[.slice a1 n1 c1, .slice a2 n2 c2] w (Moduled w (min n1 n2) f) := by
  have H1 : Hid (StrsAt w a1 n1 f) := h1
  have H2 : Hid (IntsAt w a2 n2 g) := h2
  clear h1 h2
  have hmm := makeMap_some
  obtain ⟨n, hn⟩ : ∃ n, n = min n1 n2 := ⟨_, rfl⟩
  have hle1 : n ≤ n1 := by omega
  have hle2 : n ≤ n2 := by omega
  rw [← hn]
  have HN : Hid (n = min n1 n2) := hn
  clear hn
  go_enter Eepg.func11, Eepg.ntmps11
  go_wp2_with (go_at_call 19; refine (pairs_min n _ _ _ _ _ _ _ HN).mono ?_; rintro e w' ⟨rfl, rfl⟩)
  clear HN
  go_loopw [7] (fun i wr => ∃ (k : Nat) (D : DataW (Nat × Nat)), k ≤ n ∧ i = .int .i64 k ∧ Owns wr w'.heap.size k D ∧ ModElems wr D ∧ (∀ j, j < k → Maps.has D (keyLit (f j)) = true) ∧ Below w'.heap.size w' wr) (fun i _ => n - (intOf i).toNat)
  case atStart =>
    exact ⟨0, .map [], Nat.zero_le _, rfl, World.ownsMap_made _ _ _ _, fun kl hk => by simp [Maps.has] at hk, fun j hj => by omega, (Below.refl _ _).alloc (Nat.le_refl _) _⟩
  case round =>
    obtain ⟨k, D, hk, rfl, hown, hel, hhas, hb⟩ := hrel
    by_cases hlt : k < n
    · rcases H1.out with h0 | ⟨b1, o1, rfl, hc1⟩
      · omega
      rcases H2.out with h0 | ⟨b2, o2, rfl, hc2⟩
      · omega
      obtain ⟨s, hs, hcs, hls⟩ : ∃ s : ByteArray, s = f k ∧ wr.cell? ⟨b1, o1 + k, none⟩ = some (.string s) ∧ s.size ≤ maxLen := ⟨_, rfl, cell_later hb (hc1 k (by omega)).1, (hc1 k (by omega)).2⟩
      obtain ⟨v, hcv⟩ : ∃ v : Int, wr.cell? ⟨b2, o2 + k, none⟩ = some (.int .i64 v) := ⟨_, cell_later hb (hc2 k (by omega))⟩
      have HS : Hid (s = f k) := hs
      clear hc1 hc2 H1 H2 hs
      have hown1 : Owns (wr.alloc (.cells #[.int .i64 v] 61)).drew w'.heap.size k D := hown.below ((Below.refl _ _).alloc (Nat.le_refl _) _).drew
      obtain ⟨w2, hrun, hown2, hg2⟩ := hown1.update (by unfold maxLen; omega) hls 57 wr.heap.size
      have hcs1 : (wr.alloc (.cells #[.int .i64 v] 61)).cell? ⟨b1, o1 + k, none⟩ = some (.string s) := cell_later ((Below.refl _ _).alloc (Nat.le_refl _) _) hcs
      have hk1 : k < n1 := by omega
      have hk2 : k < n2 := by omega
      go_wp2
      go_region
      go_wp2
      have hel1 : ModElems (wr.alloc (.cells #[.int .i64 v] 61)).drew D := hel.below ((Below.refl _ _).alloc (Nat.le_refl _) _).drew
      have hno := map_no_cells hown1
      have hbox : IntBox w2 wr.heap.size v := IntBox.kept (w := (wr.alloc (.cells #[.int .i64 v] 61)).drew) (IntBox.alloc wr v) hg2 hno
      go_roundw
      case rel =>
        refine ⟨k + 1, _, by omega, by go_num, hown2, (hel1.kept hg2 hno).put hown.isMap s hbox, fun j hj => ?_, ?_⟩
        · by_cases e : keyLit (f j) = keyLit s
          · rw [e]
            exact has_put_same hown.isMap (isKey s) _
          · rw [has_put_other e]
            refine hhas j ?_
            rcases Nat.lt_or_eq_of_le (Nat.le_of_lt_succ hj) with h | h
            · exact h
            · exact absurd (by rw [h, HS.out]) e
        · exact (hb.trans (((Below.refl _ _).alloc hb.size _).drew)).grown hg2 (by have := hb.size; simp; omega) (fun j hj => by cases hj; exact Nat.le_refl _)
      case measure => simp [intOf]; omega
    · clear H1 H2
      go_wp2
      go_ret
      have hkn : k = n := by omega
      subst hkn
      refine ⟨wr.heap.size, w'.heap.size, D, rfl, ⟨hown.below ((Below.refl _ _).alloc (Nat.le_refl _) _), heap_alloc_new wr _, hel.below ((Below.refl _ _).alloc (Nat.le_refl _) _)⟩, hhas, hb.alloc hb.size _⟩

end Go.Proofs.Yoeepw
