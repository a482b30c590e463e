/-
  SEAT oeep: the walk of FnAsImmutableMapExact. Typed by an AI agent. Nothing here is trusted.
-/
import Derived.Test.YoeepwFrame
namespace Go.Proofs.Yoeepw
open Go.RowKit Go.Maps

set_option maxRecDepth 100000 in
set_option maxHeartbeats 1000000 in
theorem exact5_core (a1 : Option Addr) (n1 c1 : Nat) (a2 : Option Addr) (n2 c2 : Nat) (name : ByteArray) (f : Nat → ByteArray) (g : Nat → Int) (w : World) (hn1 : n1 ≤ 4096) (hn2 : n2 ≤ 4096) (hnm : name.size ≤ 65536) (h1 : StrsAt w a1 n1 f) (h2 : IntsAt w a2 n2 g) :
    Calls Eepg.prog 5 #[.slice a1 n1 c1, .slice a2 n2 c2, .string name] w (Lawful w) := by
  have H1 : Hid (StrsAt w a1 n1 f) := h1
  have H2 : Hid (IntsAt w a2 n2 g) := h2
  clear h1 h2
  have d1 : decide ((4096 : Int) < (n1 : Int)) = false := by simp; omega
  have d2 : decide ((4096 : Int) < (n2 : Int)) = false := by simp; omega
  have d3 : decide ((65536 : Int) < (name.size : Int)) = false := by simp; omega
  go_enter Eepg.func5, Eepg.ntmps5
  go_wp2_with fail
  refine (sameWorld (bound18 _ _ _ _ _ _ _ f _ (by unfold maxLen; omega) (by unfold maxLen; omega) (by unfold maxLen; omega) H1.out)).mono ?_
  rintro e w' ⟨⟨r, rfl⟩, rfl⟩
  cases r
  · go_wp2_with fail
    go_ret
    exact ⟨rfl, Below.refl _ _⟩
  go_wp2_with fail
  refine (sameWorld (bytes8 _ _ _ _ _ _ _ _ f _ (by unfold maxLen; omega) H1.out)).mono ?_
  rintro e w' ⟨⟨z, rfl⟩, rfl⟩
  by_cases hz : (1048576 : Int) < z
  · go_wp2_with fail
    go_ret
    exact ⟨rfl, Below.refl _ _⟩
  have d4 : decide ((1048576 : Int) < z) = false := by simp; omega
  go_wp2_with fail
  refine (clone9 _ _ _ f _ hn1 H1.out).mono ?_
  rintro e w1 ⟨a1', c1', rfl, hs1, hb1⟩
  have HS : Hid (StrsAt w1 a1' n1 f) := hs1
  clear hs1 H1
  go_wp2_with fail
  refine (clone10 _ _ _ g _ hn2 (H2.out.below hb1)).mono ?_
  rintro e w2 ⟨a2', c2', rfl, hs2, hb2⟩
  have HI : Hid (IntsAt w2 a2' n2 g) := hs2
  clear hs2 H2
  go_wp2_with fail
  refine (module11 _ _ _ _ _ _ f g _ hn1 (HS.out.below hb2) HI.out).mono ?_
  rintro e w3 ⟨pm, bm, D, rfl, hm, hhas, hb3⟩
  obtain ⟨n, hn⟩ : ∃ n, n = min n1 n2 := ⟨_, rfl⟩
  rw [← hn] at hm hhas
  have HN : Hid (n = min n1 n2) := hn
  have hle : n ≤ n1 := by omega
  have hle' : n ≤ 4096 := by omega
  have HF : Hid (∀ i, i < n → Maps.has D (keyLit (f i)) = true) := hhas
  clear hn hhas
  have hss := (HS.out.below hb2).below hb3
  have HS3 : Hid (StrsAt w3 a1' n1 f) := hss
  have hB : Below w.heap.size w w3 := (hb1.trans (hb2.mono hb1.size)).trans (hb3.mono (Nat.le_trans hb1.size hb2.size))
  clear HI HS hss hb1 hb2 hb3
  have hmc := hm.cell
  obtain ⟨v0, hl0⟩ := run_look_ok (s := ⟨#[95, 95, 109, 111, 100, 117, 108, 101, 95, 110, 97, 109, 101, 95, 95]⟩) hm.owns (by decide)
  go_wp2_with fail
  refine (sameWorld (pairs_min n _ _ _ _ _ _ _ HN)).mono ?_
  rintro e w' ⟨rfl, rfl⟩
  clear HN
  have hlen := World.ownsMap.len hm.owns Eepg.underlying40 3
  have hsz := hm.owns.size_le
  obtain ⟨hadB, HH⟩ : ∃ b, Hid (Maps.has D (keyLit modKey) = b) := ⟨_, rfl⟩
  rw [show Maps.has D (keyLit ⟨#[95, 95, 109, 111, 100, 117, 108, 101, 95, 110, 97, 109, 101, 95, 95]⟩) = hadB from HH] at hl0
  cases hadB
  all_goals
    go_wp2_with fail
    refine (asMap14 pm bm n D name _ hm hle').mono ?_
    rintro e w4 ⟨pi, bi, E, rfl, hpi, him, hcp, hb4⟩
    have hsE := hcp.size
    rw [HH.out] at hsE
    have hlenE := World.ownsMap.len him.owns Eepg.underlying40 3
    rw [hsE] at hlenE
    simp only [if_true, Bool.false_eq_true, if_false, Int.natCast_add, Int.cast_ofNat_Int] at hlenE
    have hic := him.cell
    obtain ⟨q, hq, hatq, hboxq⟩ := hcp.str
    have hlq := run_look (s := ⟨#[95, 95, 109, 111, 100, 117, 108, 101, 95, 110, 97, 109, 101, 95, 95]⟩) him.owns (by decide) hatq
    have hcq := hboxq.cell
    clear hlen hl0 hsE hatq
    go_wp2_with fail
    refine (sameWorld (asString_str _ _)).mono ?_
    rintro e w' ⟨rfl, rfl⟩
    go_wp2_with fail
    have hm4 := hm.below hb4
    have HS4 : Hid (StrsAt w4 a1' n1 f) := HS3.out.below hb4
    have HC : Hid (CopyOf w4 D E w3.heap.size name) := hcp
    have hmc4 := hm4.cell
    have hB4 : Below w.heap.size w w4 := hB.trans (hb4.mono hB.size)
    have HM : Hid (ModElems w3 D) := hm.elems
    clear hlq hcq hlenE hcp HS3 hmc hboxq hb4 hB hm d1 d2 d3 d4 hsz HH hmc4 hic
    go_loopw [15] (fun i wr => ∃ (k : Nat), k ≤ n ∧ i = .int .i64 k ∧ Below w4.heap.size w4 wr) (fun i _ => n - (intOf i).toNat)
    case atStart => exact ⟨0, Nat.zero_le _, rfl, Below.refl _ _⟩
    case round =>
      obtain ⟨k, hk, rfl, hbr⟩ := hrel
      by_cases hlt : k < n
      · rcases HS4.out with h0 | ⟨b, off, rfl, hc⟩
        · omega
        obtain ⟨s, hsk, hcs, hls⟩ : ∃ s : ByteArray, Hid (s = f k) ∧ wr.cell? ⟨b, off + k, none⟩ = some (.string s) ∧ s.size ≤ maxLen := ⟨_, rfl, cell_later hbr (hc k (by omega)).1, (hc k (by omega)).2⟩
        clear hc HS4
        have hk1 : k < n1 := by omega
        have hmc := (hm4.below hbr).cell
        have hic := (him.below hbr).cell
        cases hks : (s.toList == [95, 95, 109, 111, 100, 117, 108, 101, 95, 110, 97, 109, 101, 95, 95])
        · have hne := ne_modKey hks
          obtain ⟨p, p', v, hat, hat', hpp, hbx, hbx'⟩ := HC.out.pair HM.out (by rw [hsk.out]; exact HF.out k hlt) hne
          have hpq := fun nq => eql57_other ((hbx'.below hbr).below (below_drewN (Below.refl _ wr) nq)) ((hbx.below hbr).below (below_drewN (Below.refl _ wr) nq)) (Ne.symm hpp)
          have hlk0 := run_look (hm4.below hbr).owns hls hat
          have hlk' := run_look (him.below hbr).owns hls hat'
          have hcp1 := (hbx.below hbr).cell
          have hcp2 := (hbx'.below hbr).cell
          clear hat hat' hbx hbx' hne HC HM HF
          go_wp2_with fail
          refine (sameWorld (asInt_int _ _)).mono ?_
          rintro e w' ⟨rfl, rfl⟩
          go_wp2_with fail
          refine (sameWorld (asInt_int _ _)).mono ?_
          rintro e w' ⟨rfl, rfl⟩
          go_wp2_with fail
          go_quiet (fail)
          go_wp2_with fail
          go_roundw
          case rel => exact ⟨k + 1, by omega, by go_num, below_drewN hbr nq⟩
          case measure => simp [intOf]; omega
        · go_wp2_with fail
          go_roundw
          case rel => exact ⟨k + 1, by omega, by go_num, hbr⟩
          case measure => simp [intOf]; omega
      · go_wp2_with fail
        go_ret
        exact ⟨rfl, hB4.trans (hbr.mono hB4.size)⟩

set_option maxRecDepth 100000 in
set_option maxHeartbeats 1000000 in
theorem exact5 (a1 : Option Addr) (n1 c1 : Nat) (a2 : Option Addr) (n2 c2 : Nat) (name : ByteArray) (f : Nat → ByteArray) (g : Nat → Int) (w : World) (hn1 : n1 ≤ maxLen) (hn2 : n2 ≤ maxLen) (hnm : name.size ≤ maxLen) (h1 : StrsAt w a1 n1 f) (h2 : IntsAt w a2 n2 g) :
    Calls Eepg.prog 5 #[.slice a1 n1 c1, .slice a2 n2 c2, .string name] w (Lawful w) := by
  by_cases hin : n1 ≤ 4096 ∧ n2 ≤ 4096 ∧ name.size ≤ 65536
  · exact exact5_core a1 n1 c1 a2 n2 c2 name f g w hin.1 hin.2.1 hin.2.2 h1 h2
  · have HB := bound18 a1 n1 c1 a2 n2 c2 name f w hn1 hn2 hnm h1
    clear h1 h2
    have HB' := sameWorld HB
    clear HB
    by_cases hc1 : (4096 : Int) < (n1 : Int)
    · have d1 : decide ((4096 : Int) < (n1 : Int)) = true := by simp; omega
      go_enter Eepg.func5, Eepg.ntmps5
      go_wp2_with fail
      refine HB'.mono ?_
      rintro e w' ⟨⟨r, rfl⟩, rfl⟩
      cases r
      all_goals
        go_wp2_with fail
        go_ret
        exact ⟨rfl, Below.refl _ _⟩
    · have d1 : decide ((4096 : Int) < (n1 : Int)) = false := by simp; omega
      by_cases hc2 : (4096 : Int) < (n2 : Int)
      · have d2 : decide ((4096 : Int) < (n2 : Int)) = true := by simp; omega
        go_enter Eepg.func5, Eepg.ntmps5
        go_wp2_with fail
        refine HB'.mono ?_
        rintro e w' ⟨⟨r, rfl⟩, rfl⟩
        cases r
        all_goals
          go_wp2_with fail
          go_ret
          exact ⟨rfl, Below.refl _ _⟩
      · have d2 : decide ((4096 : Int) < (n2 : Int)) = false := by simp; omega
        have d3 : decide ((65536 : Int) < (name.size : Int)) = true := by simp; omega
        go_enter Eepg.func5, Eepg.ntmps5
        go_wp2_with fail
        refine HB'.mono ?_
        rintro e w' ⟨⟨r, rfl⟩, rfl⟩
        cases r
        all_goals
          go_wp2_with fail
          go_ret
          exact ⟨rfl, Below.refl _ _⟩

end Go.Proofs.Yoeepw
