/-
  SEAT oeep: the walks of zzCloneStrings and zzCloneInts. Typed by an AI agent. Nothing here is trusted.
-/
import Derived.Test.YoeepwBytes
import Derived.Lib.SliceRun
import Derived.Maps.AppendAt
namespace Go.Proofs.Yoeepw
open Go.RowKit Go.Maps

theorem info9 : (Eepg.prog.info? 9).map (fun i => (i.zero, i.size, i.bytes)) = some (some (.string ⟨#[]⟩), 1, 16) := by kernel_rfl
theorem info2 : (Eepg.prog.info? 2).map (fun i => (i.zero, i.size, i.bytes)) = some (some (.int .i64 0), 1, 8) := by kernel_rfl

/-- A slice of integers, as the walks read it. -/
def IntsAt (w : World) (a : Option Addr) (n : Nat) (g : Nat → Int) : Prop :=
  n = 0 ∨ ∃ b off, a = some ⟨b, off, none⟩ ∧ ∀ i, i < n → w.cell? ⟨b, off + i, none⟩ = some (.int .i64 (g i))

/-- What a clone leaves: a row of the call's own. -/
def Cloned (w : World) (e : TypeId) (n : Nat) (news : List Value) (en : Ending) (w' : World) : Prop :=
  ∃ v', en = .returned v' ∧ w'.ownsRow w.heap.size e 1 v' n news ∧ Below w.heap.size w w'

theorem row_cells {w : World} {base : Nat} {e : TypeId} {v : Value} {n : Nat} {xs : List Value} (h : w.ownsRow base e 1 v n xs) :
    ∃ a c, v = .slice a n c ∧ (n = 0 ∨ ∃ b, a = some ⟨b, 0, none⟩ ∧ ∀ i, i < n → w.cell? ⟨b, 0 + i, none⟩ = xs[i]?) := by
  obtain ⟨hl, h⟩ := h
  rcases h with ⟨rfl, rfl⟩ | ⟨g, cap, cur, rfl, _, hb, hc, _, hs, ht⟩
  · exact ⟨_, _, rfl, .inl rfl⟩
  · refine ⟨_, _, rfl, .inr ⟨g, rfl, fun i hi => ?_⟩⟩
    subst ht
    simp [World.cell?, hb, hi]

set_option maxHeartbeats 1000000 in
theorem clone9_some (ad : Addr) (n c : Nat) (news : List Value) (w : World) (hn : n ≤ 4096) (hl : news.length = n) (hnews : ∀ j u, news[j]? = some u → w.cell? (ad.add j) = some u) (h1 : ∀ u ∈ news, u.oneCell' = true) :
    Calls Eepg.prog 9 #[.slice (some ad) n c] w (Cloned w 9 n news) := by
  have q : ∀ (w : World) (a : Option Addr) (n c n' c' : Nat), (binOp .eql 22 (.slice a n c) (.slice none n' c')).run Eepg.prog w = .ok (.bool a.isNone) w := fun w a n c n' c' => Lib.run_eql_slice_nil w _ _ a n c n' c' Eepg.underlying22
  obtain ⟨i0, hi, hz0, hz1, hz2⟩ := info_parts info9
  go_enter Eepg.func9, Eepg.ntmps9
  go_wp2_with (first
    | (at_builtin; refine wpList_append_own_at _ rfl _ _ 22 rfl w.heap.size 9 i0 (.string ⟨#[]⟩) 1 16 Eepg.underlying22 hi hz0 hz1 hz2 rfl (by decide) _ 0 [] rfl (World.ownsRow_made w #[] 0 (Nat.le_refl _) (Nat.zero_le _) rfl) ad n c news rfl (by omega) ?_ h1 (by unfold maxLen; omega) (by omega) (by simp) ?_)
    | go_in)
  · intro j u hu
    exact cell_later ((Below.refl _ _).alloc (Nat.le_refl _) _) (hnews j u hu)
  · intro v' w1 hown hg hnil hloc
    go_wp2
    go_ret
    have hown' : w1.ownsRow w.heap.size 9 1 v' n news := by simpa using hown
    exact ⟨_, rfl, hown', (((Below.refl _ _).alloc (Nat.le_refl _) _).grown hg (by simp) (fun k hk => by simp [Value.ownBlock] at hk; omega))⟩

theorem clone9_none (c : Nat) (w : World) : Calls Eepg.prog 9 #[.slice none 0 c] w (Cloned w 9 0 []) := by
  have q : ∀ (w : World) (a : Option Addr) (n c n' c' : Nat), (binOp .eql 22 (.slice a n c) (.slice none n' c')).run Eepg.prog w = .ok (.bool a.isNone) w := fun w a n c n' c' => Lib.run_eql_slice_nil w _ _ a n c n' c' Eepg.underlying22
  go_enter Eepg.func9, Eepg.ntmps9
  go_wp2
  go_ret
  exact ⟨_, rfl, World.ownsRow_nil _ _ _ _, Below.refl _ _⟩

set_option maxHeartbeats 1000000 in
theorem clone10_some (ad : Addr) (n c : Nat) (news : List Value) (w : World) (hn : n ≤ 4096) (hl : news.length = n) (hnews : ∀ j u, news[j]? = some u → w.cell? (ad.add j) = some u) (h1 : ∀ u ∈ news, u.oneCell' = true) :
    Calls Eepg.prog 10 #[.slice (some ad) n c] w (Cloned w 2 n news) := by
  have q : ∀ (w : World) (a : Option Addr) (n c n' c' : Nat), (binOp .eql 23 (.slice a n c) (.slice none n' c')).run Eepg.prog w = .ok (.bool a.isNone) w := fun w a n c n' c' => Lib.run_eql_slice_nil w _ _ a n c n' c' Eepg.underlying23
  obtain ⟨i0, hi, hz0, hz1, hz2⟩ := info_parts info2
  go_enter Eepg.func10, Eepg.ntmps10
  go_wp2_with (first
    | (at_builtin; refine wpList_append_own_at _ rfl _ _ 23 rfl w.heap.size 2 i0 (.int .i64 0) 1 8 Eepg.underlying23 hi hz0 hz1 hz2 rfl (by decide) _ 0 [] rfl (World.ownsRow_made w #[] 0 (Nat.le_refl _) (Nat.zero_le _) rfl) ad n c news rfl (by omega) ?_ h1 (by unfold maxLen; omega) (by omega) (by simp) ?_)
    | go_in)
  · intro j u hu
    exact cell_later ((Below.refl _ _).alloc (Nat.le_refl _) _) (hnews j u hu)
  · intro v' w1 hown hg hnil hloc
    go_wp2
    go_ret
    have hown' : w1.ownsRow w.heap.size 2 1 v' n news := by simpa using hown
    exact ⟨_, rfl, hown', (((Below.refl _ _).alloc (Nat.le_refl _) _).grown hg (by simp) (fun k hk => by simp [Value.ownBlock] at hk; omega))⟩

theorem clone10_none (c : Nat) (w : World) : Calls Eepg.prog 10 #[.slice none 0 c] w (Cloned w 2 0 []) := by
  have q : ∀ (w : World) (a : Option Addr) (n c n' c' : Nat), (binOp .eql 23 (.slice a n c) (.slice none n' c')).run Eepg.prog w = .ok (.bool a.isNone) w := fun w a n c n' c' => Lib.run_eql_slice_nil w _ _ a n c n' c' Eepg.underlying23
  go_enter Eepg.func10, Eepg.ntmps10
  go_wp2
  go_ret
  exact ⟨_, rfl, World.ownsRow_nil _ _ _ _, Below.refl _ _⟩

/-- zzCloneStrings: a slice of the same strings, nothing old turned. -/
def ClonedStrs (w : World) (n : Nat) (f : Nat → ByteArray) (en : Ending) (w' : World) : Prop :=
  ∃ a c, en = .returned (.slice a n c) ∧ StrsAt w' a n f ∧ Below w.heap.size w w'
def ClonedInts (w : World) (n : Nat) (g : Nat → Int) (en : Ending) (w' : World) : Prop :=
  ∃ a c, en = .returned (.slice a n c) ∧ IntsAt w' a n g ∧ Below w.heap.size w w'

theorem clone9 (a : Option Addr) (n c : Nat) (f : Nat → ByteArray) (w : World) (hn : n ≤ 4096) (h : StrsAt w a n f) :
    Calls Eepg.prog 9 #[.slice a n c] w (ClonedStrs w n f) := by
  have key : Calls Eepg.prog 9 #[.slice a n c] w (Cloned w 9 n ((List.range n).map fun i => .string (f i))) := by
    cases a with
    | none =>
      rcases h with rfl | ⟨b, off, h, _⟩
      · exact clone9_none c w
      · cases h
    | some ad =>
      refine clone9_some ad n c _ w hn (by simp) ?_ ?_
      · intro j u hu
        rcases h with rfl | ⟨b, off, h, hc⟩
        · simp at hu
        · cases h
          simp only [List.getElem?_map, Option.map_eq_some_iff] at hu
          obtain ⟨i, hi, rfl⟩ := hu
          obtain ⟨h1, h2⟩ := List.getElem?_eq_some_iff.1 hi
          simp at h1 h2
          subst h2
          rw [Addr.add_lit]; exact (hc _ h1).1
      · intro u hu
        obtain ⟨_, _, rfl⟩ := List.mem_map.1 hu
        rfl
  refine key.mono ?_
  rintro e w' ⟨v', rfl, hown, hb⟩
  obtain ⟨a', c', rfl, hc⟩ := row_cells hown
  refine ⟨a', c', rfl, ?_, hb⟩
  rcases hc with h0 | ⟨g, rfl, hc⟩
  · exact .inl h0
  · refine .inr ⟨g, 0, rfl, fun i hi => ⟨by rw [hc i hi]; simp [hi], ?_⟩⟩
    rcases h with h0 | ⟨_, _, _, h⟩
    · omega
    · exact (h i hi).2

theorem clone10 (a : Option Addr) (n c : Nat) (g : Nat → Int) (w : World) (hn : n ≤ 4096) (h : IntsAt w a n g) :
    Calls Eepg.prog 10 #[.slice a n c] w (ClonedInts w n g) := by
  have key : Calls Eepg.prog 10 #[.slice a n c] w (Cloned w 2 n ((List.range n).map fun i => .int .i64 (g i))) := by
    cases a with
    | none =>
      rcases h with rfl | ⟨b, off, h, _⟩
      · exact clone10_none c w
      · cases h
    | some ad =>
      refine clone10_some ad n c _ w hn (by simp) ?_ ?_
      · intro j u hu
        rcases h with rfl | ⟨b, off, h, hc⟩
        · simp at hu
        · cases h
          simp only [List.getElem?_map, Option.map_eq_some_iff] at hu
          obtain ⟨i, hi, rfl⟩ := hu
          obtain ⟨h1, h2⟩ := List.getElem?_eq_some_iff.1 hi
          simp at h1 h2
          subst h2
          rw [Addr.add_lit]; exact hc _ h1
      · intro u hu
        obtain ⟨_, _, rfl⟩ := List.mem_map.1 hu
        rfl
  refine key.mono ?_
  rintro e w' ⟨v', rfl, hown, hb⟩
  obtain ⟨a', c', rfl, hc⟩ := row_cells hown
  refine ⟨a', c', rfl, ?_, hb⟩
  rcases hc with h0 | ⟨g, rfl, hc⟩
  · exact .inl h0
  · exact .inr ⟨g, 0, rfl, fun i hi => by rw [hc i hi]; simp [hi]⟩

end Go.Proofs.Yoeepw
