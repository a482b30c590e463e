/-
  SEAT oeep: the walk of FnImportAgreesWithAsImmutableMap. Typed by an AI agent. Nothing here is trusted.
-/
import Derived.Test.YoeepwImport
namespace Go.Proofs.Yoeepw
open Go.RowKit Go.Maps

set_option maxRecDepth 100000 in
set_option maxHeartbeats 1000000 in
theorem agree3_core (a1 : Option Addr) (n1 c1 : Nat) (a2 : Option Addr) (n2 c2 : Nat) (name : ByteArray) (f : Nat → ByteArray) (g : Nat → Int) (w : World) (hn1 : n1 ≤ 4096) (hn2 : n2 ≤ 4096) (hnm : name.size ≤ 65536) (h1 : StrsAt w a1 n1 f) (h2 : IntsAt w a2 n2 g) :
    Calls Eepg.prog 3 #[.slice a1 n1 c1, .slice a2 n2 c2, .string name] w (Lawful w) := by
  have H1 : Hid (StrsAt w a1 n1 f) := h1
  have H2 : Hid (IntsAt w a2 n2 g) := h2
  clear h1 h2
  have d1 : decide ((4096 : Int) < (n1 : Int)) = false := by simp; omega
  have d2 : decide ((4096 : Int) < (n2 : Int)) = false := by simp; omega
  have d3 : decide ((65536 : Int) < (name.size : Int)) = false := by simp; omega
  go_enter Eepg.func3, Eepg.ntmps3
  go_wp2_with fail
  refine (sameWorld (bound7 _ _ _ _ _ _ _ f _ (by unfold maxLen; omega) (by unfold maxLen; omega) (by unfold maxLen; omega) H1.out)).mono ?_
  rintro e w' ⟨⟨r, rfl⟩, rfl⟩
  cases r
  · go_wp2_with fail
    go_ret
    exact ⟨rfl, Below.refl _ _⟩
  go_wp2_with fail
  refine (sameWorld (bytes8 _ _ _ _ _ _ _ _ f _ (by unfold maxLen; omega) H1.out)).mono ?_
  rintro e w' ⟨⟨z, rfl⟩, rfl⟩
  by_cases hz : (1048576 : Int) < z
  · go_wp2_with fail
    go_ret
    exact ⟨rfl, Below.refl _ _⟩
  have d4 : decide ((1048576 : Int) < z) = false := by simp; omega
  go_wp2_with fail
  refine (clone9 _ _ _ f _ hn1 H1.out).mono ?_
  rintro e w1 ⟨a1', c1', rfl, hs1, hb1⟩
  have HS : Hid (StrsAt w1 a1' n1 f) := hs1
  clear hs1 H1
  go_wp2_with fail
  refine (clone10 _ _ _ g _ hn2 (H2.out.below hb1)).mono ?_
  rintro e w2 ⟨a2', c2', rfl, hs2, hb2⟩
  have HI : Hid (IntsAt w2 a2' n2 g) := hs2
  clear hs2 H2
  go_wp2_with fail
  refine (module11 _ _ _ _ _ _ f g _ hn1 (HS.out.below hb2) HI.out).mono ?_
  rintro e w3 ⟨pm, bm, D, rfl, hm, hhas, hb3⟩
  have hB : Below w.heap.size w w3 := (hb1.trans (hb2.mono hb1.size)).trans (hb3.mono (Nat.le_trans hb1.size hb2.size))
  clear HI HS hb1 hb2 hb3 hhas d1 d2 d3 d4
  have hmin : min n1 n2 ≤ 4096 := by omega
  generalize min n1 n2 = n at hm hmin
  have hnil := neq31_nil
  go_wp2_with fail
  refine (import12 pm bm n D name _ hm hmin).mono ?_
  rintro e w4 ⟨pa, ba, Ea, rfl, hpa, hia, hca, hb4⟩
  have hm4 := hm.below hb4
  go_wp2_with fail
  refine (sameWorld (asIm_im _ _)).mono ?_
  rintro e w' ⟨rfl, rfl⟩
  go_wp2_with fail
  refine (asMap14 pm bm n D name _ hm4 hmin).mono ?_
  rintro e w5 ⟨pb, bb, Eb, rfl, hpb, hib, hcb, hb5⟩
  have hia5 := hia.below hb5
  have hca5 := hca.below hb5
  have hpab : pa < w4.heap.size := (Array.getElem?_eq_some_iff.1 hia.box).1
  have hq34 := eql34_other hia5 hib (by omega)
  have hB5 : Below w.heap.size w w5 := (hB.trans (hb4.mono hB.size)).trans (hb5.mono (Nat.le_trans hB.size hb4.size))
  have g1 := hia5.cell
  have g2 := hib.cell
  have hs := hca5.sizes hcb
  have g3 := fun nq => World.ownsMap.len (hia5.owns.below (below_drewN (Below.refl _ w5) nq)) Eepg.underlying40 3
  have g4 := fun nq => World.ownsMap.len (hib.owns.below (below_drewN (Below.refl _ w5) nq)) Eepg.underlying40 3
  rw [← hs] at g4
  clear hs
  go_wp2_with fail
  go_quiet (fail)
  have hbs := below_drewN (Below.refl w5.heap.size w5) nq
  clear g1 g2 g3 g4
  generalize w5.drewN nq = w6 at hbs ⊢
  go_wp2_with fail
  refine (equals_copies pa ba pb bb D Ea Eb _ _ name name _ (hia5.below hbs) (hib.below hbs) (hca5.below hbs) (hcb.below hbs)).mono ?_
  rintro e w7 ⟨he, hb7⟩
  rw [beq_self_eq_true] at he
  subst he
  have hbt : Below w5.heap.size w5 w7 := hbs.trans (hb7.mono hbs.size)
  go_wp2_with fail
  refine (equals_copies pb bb pa ba D Eb Ea _ _ name name _ (hib.below hbt) (hia5.below hbt) (hcb.below hbt) (hca5.below hbt)).mono ?_
  rintro e w8 ⟨he, hb8⟩
  rw [beq_self_eq_true] at he
  subst he
  go_wp2_with fail
  go_ret
  exact ⟨rfl, hB5.trans ((hbt.trans (hb8.mono hbt.size)).mono hB5.size)⟩

set_option maxRecDepth 100000 in
set_option maxHeartbeats 1000000 in
theorem agree3 (a1 : Option Addr) (n1 c1 : Nat) (a2 : Option Addr) (n2 c2 : Nat) (name : ByteArray) (f : Nat → ByteArray) (g : Nat → Int) (w : World) (hn1 : n1 ≤ maxLen) (hn2 : n2 ≤ maxLen) (hnm0 : name.size ≤ maxLen) (h1 : StrsAt w a1 n1 f) (h2 : IntsAt w a2 n2 g) :
    Calls Eepg.prog 3 #[.slice a1 n1 c1, .slice a2 n2 c2, .string name] w (Lawful w) := by
  by_cases hin : n1 ≤ 4096 ∧ n2 ≤ 4096 ∧ name.size ≤ 65536
  · exact agree3_core a1 n1 c1 a2 n2 c2 name f g w hin.1 hin.2.1 hin.2.2 h1 h2
  · have HB := bound7 a1 n1 c1 a2 n2 c2 name f w hn1 hn2 hnm0 h1
    clear h1 h2
    have HB' := sameWorld HB
    clear HB
    by_cases hc0 : (4096 : Int) < (n1 : Int)
    · have d0 : decide ((4096 : Int) < (n1 : Int)) = true := by simp; omega
      go_enter Eepg.func3, Eepg.ntmps3
      go_wp2_with fail
      refine HB'.mono ?_
      rintro e w' ⟨⟨r, rfl⟩, rfl⟩
      cases r
      all_goals
        go_wp2_with fail
        go_ret
        exact ⟨rfl, Below.refl _ _⟩
    · have d0 : decide ((4096 : Int) < (n1 : Int)) = false := by simp; omega
      by_cases hc1 : (4096 : Int) < (n2 : Int)
      · have d1 : decide ((4096 : Int) < (n2 : Int)) = true := by simp; omega
        go_enter Eepg.func3, Eepg.ntmps3
        go_wp2_with fail
        refine HB'.mono ?_
        rintro e w' ⟨⟨r, rfl⟩, rfl⟩
        cases r
        all_goals
          go_wp2_with fail
          go_ret
          exact ⟨rfl, Below.refl _ _⟩
      · have d1 : decide ((4096 : Int) < (n2 : Int)) = false := by simp; omega
        have d2 : decide ((65536 : Int) < (name.size : Int)) = true := by simp; omega
        go_enter Eepg.func3, Eepg.ntmps3
        go_wp2_with fail
        refine HB'.mono ?_
        rintro e w' ⟨⟨r, rfl⟩, rfl⟩
        cases r
        all_goals
          go_wp2_with fail
          go_ret
          exact ⟨rfl, Below.refl _ _⟩

end Go.Proofs.Yoeepw
