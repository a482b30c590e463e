/-
  SEAT oeep: the walk of FnImportNameDecidesEquality. Typed by an AI agent. Nothing here is trusted.
-/
import Derived.Test.YoeepwImport
namespace Go.Proofs.Yoeepw
open Go.RowKit Go.Maps

set_option maxRecDepth 100000 in
set_option maxHeartbeats 1000000 in
theorem decides4_core (a1 : Option Addr) (n1 c1 : Nat) (a2 : Option Addr) (n2 c2 : Nat) (name name' : ByteArray) (f : Nat → ByteArray) (g : Nat → Int) (w : World) (hn1 : n1 ≤ 4096) (hn2 : n2 ≤ 4096) (hnm : name.size ≤ 65536) (hnm' : name'.size ≤ 65536) (h1 : StrsAt w a1 n1 f) (h2 : IntsAt w a2 n2 g) :
    Calls Eepg.prog 4 #[.slice a1 n1 c1, .slice a2 n2 c2, .string name, .string name'] w (Lawful w) := by
  have H1 : Hid (StrsAt w a1 n1 f) := h1
  have H2 : Hid (IntsAt w a2 n2 g) := h2
  clear h1 h2
  have d1 : decide ((4096 : Int) < (n1 : Int)) = false := by simp; omega
  have d2 : decide ((4096 : Int) < (n2 : Int)) = false := by simp; omega
  have d3 : decide ((65536 : Int) < (name.size : Int)) = false := by simp; omega
  have d3' : decide ((65536 : Int) < (name'.size : Int)) = false := by simp; omega
  go_enter Eepg.func4, Eepg.ntmps4
  go_wp2_with fail
  refine (sameWorld (bound16 _ _ _ _ _ _ _ _ f _ (by unfold maxLen; omega) (by unfold maxLen; omega) (by unfold maxLen; omega) (by unfold maxLen; omega) H1.out)).mono ?_
  rintro e w' ⟨⟨r, rfl⟩, rfl⟩
  cases r
  · go_wp2_with fail
    go_ret
    exact ⟨rfl, Below.refl _ _⟩
  go_wp2_with fail
  refine (sameWorld (bytes8 _ _ _ _ _ _ _ _ f _ (by unfold maxLen; omega) H1.out)).mono ?_
  rintro e w' ⟨⟨z, rfl⟩, rfl⟩
  by_cases hz : (1048576 : Int) < z
  · go_wp2_with fail
    go_ret
    exact ⟨rfl, Below.refl _ _⟩
  have d4 : decide ((1048576 : Int) < z) = false := by simp; omega
  go_wp2_with fail
  refine (clone9 _ _ _ f _ hn1 H1.out).mono ?_
  rintro e w1 ⟨a1', c1', rfl, hs1, hb1⟩
  have HS : Hid (StrsAt w1 a1' n1 f) := hs1
  clear hs1 H1
  go_wp2_with fail
  refine (clone10 _ _ _ g _ hn2 (H2.out.below hb1)).mono ?_
  rintro e w2 ⟨a2', c2', rfl, hs2, hb2⟩
  have HI : Hid (IntsAt w2 a2' n2 g) := hs2
  clear hs2 H2
  go_wp2_with fail
  refine (module11 _ _ _ _ _ _ f g _ hn1 (HS.out.below hb2) HI.out).mono ?_
  rintro e w3 ⟨pm, bm, D, rfl, hm, hhas, hb3⟩
  have hB : Below w.heap.size w w3 := (hb1.trans (hb2.mono hb1.size)).trans (hb3.mono (Nat.le_trans hb1.size hb2.size))
  clear HI HS hb1 hb2 hb3 hhas d1 d2 d3 d3' d4
  have hmin : min n1 n2 ≤ 4096 := by omega
  generalize min n1 n2 = n at hm hmin
  have hnil := neq31_nil
  go_wp2_with fail
  refine (import12 pm bm n D name _ hm hmin).mono ?_
  rintro e w4 ⟨pa, ba, Ea, rfl, hpa, hia, hca, hb4⟩
  have hm4 := hm.below hb4
  go_wp2_with fail
  refine (import12 pm bm n D name' _ hm4 hmin).mono ?_
  rintro e w5 ⟨pb, bb, Eb, rfl, hpb, hib, hcb, hb5⟩
  have hia5 := hia.below hb5
  have hca5 := hca.below hb5
  have hB5 : Below w.heap.size w w5 := (hB.trans (hb4.mono hB.size)).trans (hb5.mono (Nat.le_trans hB.size hb4.size))
  obtain ⟨q, _, hatq, hboxq⟩ := hca5.str
  obtain ⟨q', _, hatq', hboxq'⟩ := hcb.str
  have g1 := hia5.cell
  have g2 := hib.cell
  have g3 := run_look (s := ⟨#[95, 95, 109, 111, 100, 117, 108, 101, 95, 110, 97, 109, 101, 95, 95]⟩) hia5.owns (by decide) hatq
  have g4 := run_look (s := ⟨#[95, 95, 109, 111, 100, 117, 108, 101, 95, 110, 97, 109, 101, 95, 95]⟩) hib.owns (by decide) hatq'
  have g5 := hboxq.cell
  have g6 := hboxq'.cell
  clear hatq hatq' hboxq hboxq' hca hia
  go_wp2_with fail
  refine (sameWorld (asIm_im _ _)).mono ?_
  rintro e w' ⟨rfl, rfl⟩
  go_wp2_with fail
  refine (sameWorld (asIm_im _ _)).mono ?_
  rintro e w' ⟨rfl, rfl⟩
  go_wp2_with fail
  refine (sameWorld (asString_str _ _)).mono ?_
  rintro e w' ⟨rfl, rfl⟩
  go_wp2_with fail
  refine (sameWorld (asString_str _ _)).mono ?_
  rintro e w' ⟨rfl, rfl⟩
  go_wp2_with fail
  refine (equals_copies pa ba pb bb D Ea Eb _ _ name name' _ hia5 hib hca5 hcb).mono ?_
  rintro e w6 ⟨he, hb6⟩
  subst he
  clear g1 g2 g3 g4 g5 g6 hnil
  go_wp2_with fail
  go_ret
  exact ⟨by simp, hB5.trans (hb6.mono hB5.size)⟩

set_option maxRecDepth 100000 in
set_option maxHeartbeats 1000000 in
theorem decides4 (a1 : Option Addr) (n1 c1 : Nat) (a2 : Option Addr) (n2 c2 : Nat) (name : ByteArray) (name' : ByteArray) (f : Nat → ByteArray) (g : Nat → Int) (w : World) (hn1 : n1 ≤ maxLen) (hn2 : n2 ≤ maxLen) (hnm0 : name.size ≤ maxLen) (hnm1 : name'.size ≤ maxLen) (h1 : StrsAt w a1 n1 f) (h2 : IntsAt w a2 n2 g) :
    Calls Eepg.prog 4 #[.slice a1 n1 c1, .slice a2 n2 c2, .string name, .string name'] w (Lawful w) := by
  by_cases hin : n1 ≤ 4096 ∧ n2 ≤ 4096 ∧ name.size ≤ 65536 ∧ name'.size ≤ 65536
  · exact decides4_core a1 n1 c1 a2 n2 c2 name name' f g w hin.1 hin.2.1 hin.2.2.1 hin.2.2.2 h1 h2
  · have HB := bound16 a1 n1 c1 a2 n2 c2 name name' f w hn1 hn2 hnm0 hnm1 h1
    clear h1 h2
    have HB' := sameWorld HB
    clear HB
    by_cases hc0 : (4096 : Int) < (n1 : Int)
    · have d0 : decide ((4096 : Int) < (n1 : Int)) = true := by simp; omega
      go_enter Eepg.func4, Eepg.ntmps4
      go_wp2_with fail
      refine HB'.mono ?_
      rintro e w' ⟨⟨r, rfl⟩, rfl⟩
      cases r
      all_goals
        go_wp2_with fail
        go_ret
        exact ⟨rfl, Below.refl _ _⟩
    · have d0 : decide ((4096 : Int) < (n1 : Int)) = false := by simp; omega
      by_cases hc1 : (4096 : Int) < (n2 : Int)
      · have d1 : decide ((4096 : Int) < (n2 : Int)) = true := by simp; omega
        go_enter Eepg.func4, Eepg.ntmps4
        go_wp2_with fail
        refine HB'.mono ?_
        rintro e w' ⟨⟨r, rfl⟩, rfl⟩
        cases r
        all_goals
          go_wp2_with fail
          go_ret
          exact ⟨rfl, Below.refl _ _⟩
      · have d1 : decide ((4096 : Int) < (n2 : Int)) = false := by simp; omega
        by_cases hc2 : (65536 : Int) < (name.size : Int)
        · have d2 : decide ((65536 : Int) < (name.size : Int)) = true := by simp; omega
          go_enter Eepg.func4, Eepg.ntmps4
          go_wp2_with fail
          refine HB'.mono ?_
          rintro e w' ⟨⟨r, rfl⟩, rfl⟩
          cases r
          all_goals
            go_wp2_with fail
            go_ret
            exact ⟨rfl, Below.refl _ _⟩
        · have d2 : decide ((65536 : Int) < (name.size : Int)) = false := by simp; omega
          have d3 : decide ((65536 : Int) < (name'.size : Int)) = true := by simp; omega
          go_enter Eepg.func4, Eepg.ntmps4
          go_wp2_with fail
          refine HB'.mono ?_
          rintro e w' ⟨⟨r, rfl⟩, rfl⟩
          cases r
          all_goals
            go_wp2_with fail
            go_ret
            exact ⟨rfl, Below.refl _ _⟩

end Go.Proofs.Yoeepw
