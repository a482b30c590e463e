/-
  SEAT oeep: the walk of (*ImmutableMap).Equals. Typed by an AI agent. Nothing here is trusted.
-/
import Derived.Test.YoeepwFrame
namespace Go.Proofs.Yoeepw
open Go.RowKit Go.Maps

theorem meth_eq57 (a : Addr) (w : World) : (method 194 57 (.pointer (some a)) "Equals").run Eepg.prog w = .ok (47, .pointer (some a)) w := by kernel_rfl
theorem meth_eq45 (a : Addr) (w : World) : (method 194 45 (.pointer (some a)) "Equals").run Eepg.prog w = .ok (41, .pointer (some a)) w := by kernel_rfl

/-- At the key kl both maps hold an integer's pointer, and the two integers are one. -/
def SameInt (w : World) (E F : DataW (Nat × Nat)) (kl : Lit) : Prop := ∃ p p' v, At E kl 57 p ∧ At F kl 57 p' ∧ IntBox w p v ∧ IntBox w p' v

/-- Equals: two maps that hold the same integers at every key but the name's, where they hold the strings s and s'. -/
def Compared (w : World) (s s' : ByteArray) (e : Ending) (w' : World) : Prop := e = .returned (.bool (s.toList == s'.toList)) ∧ Below w.heap.size w w'

set_option maxRecDepth 100000 in
set_option maxHeartbeats 1000000 in
theorem equals15 (pi bi pj bj q q' : Nat) (E F : DataW (Nat × Nat)) (s s' : ByteArray) (w : World) (hE : ImAt w pi bi E) (hF : ImAt w pj bj F) (hsz : Maps.size E = Maps.size F) (hints : ∀ kl, kl ≠ keyLit modKey → Maps.has E kl = true → SameInt w E F kl)
    (hq : At E (keyLit modKey) 45 q) (hq' : At F (keyLit modKey) 45 q') (hs : StrBox w q s) (hs' : StrBox w q' s') :
    Calls Eepg.prog 15 #[.pointer (some ⟨pi, 0, none⟩), .iface 34 (.pointer (some ⟨pj, 0, none⟩))] w (Compared w s s') := by
  have hcE := hE.cell
  have hcF := hF.cell
  have hlE := World.ownsMap.len hE.owns Eepg.underlying40 3
  have hlF := World.ownsMap.len hF.owns Eepg.underlying40 3
  rw [← hsz] at hlF
  have hm1 := meth_eq57
  have hm2 := meth_eq45
  have ht1 := as34_34
  have ht2 := as34_64
  have HI : Hid (∀ kl, kl ≠ keyLit modKey → Maps.has E kl = true → SameInt w E F kl) := hints
  clear hints hsz
  have hel : ∀ kl, Maps.has E kl = true → ∃ t p, At E kl t p ∧ (t = 57 ∨ t = 45) := by
    intro kl hk
    by_cases e : kl = keyLit modKey
    · subst e
      exact ⟨45, q, hq, .inr rfl⟩
    · obtain ⟨p, _, _, h, _⟩ := HI.out kl e hk
      exact ⟨57, p, h, .inl rfl⟩
  have HEL : Hid (∀ kl, Maps.has E kl = true → ∃ t p, At E kl t p ∧ (t = 57 ∨ t = 45)) := hel
  clear hel
  obtain ⟨b, hb⟩ : ∃ b, (s.toList == s'.toList) = b := ⟨_, rfl⟩
  unfold Compared
  rw [hb]
  go_enter Eepg.func15, Eepg.ntmps15
  go_wp2_with (first
    | (at_range; refine wpList_range_own _ rfl _ 40 rfl 9 49 law9 Eepg.underlying40 _ bi 5000 E rfl hE.owns ?_; intro w0 hrg0 hg0 hs0)
    | go_in)
  go_frame
  clear hcE hcF hlE hlF ht1 ht2
  go_loopw [9] (fun _ wr => ∃ (left : Lit → Bool) (cnt : Nat), Ranges wr bi w.heap.size 5000 E left cnt ∧ (b = false → left (keyLit modKey) = true) ∧ Below w.heap.size w wr)
    (fun _ wr => wr.rangeLeft bi w.heap.size)
  case atStart =>
    exact ⟨_, _, hrg0, fun _ => hq.has, (Below.refl _ _).grown hg0 (Nat.le_refl _) (fun j hj => by cases hj)⟩
  case round =>
    obtain ⟨left, cnt, hrg, hlm, hnx⟩ := hrel
    clear hrg0 hg0 hs0
    have HL : Hid (b = false → left (keyLit modKey) = true) := hlm
    clear hlm
    go_wp2_with (first
      | (at_next; refine wpList_next_obj _ rfl _ rfl bi w.heap.size 5000 E left cnt rfl hrg HEL.out ?_ ?_ ?_)
      | go_in)
    · intro hl0
      cases b with
      | false => exact absurd (HL.out rfl) (by rw [hl0]; decide)
      | true =>
        clear hm1 hm2 hb
        go_wp2
        go_ret
        exact ⟨rfl, hnx⟩
    · intro x p w1 cnt1 hx hlk hat hrg1 hlt1 hg1 hs1 hen
      have hne : keyLit x ≠ keyLit modKey := fun e => absurd ((e ▸ hat : At E (keyLit modKey) 57 p).eq hq).1 (by decide)
      obtain ⟨p1, p', v, hat1, hat', hbx, hbx'⟩ := HI.out _ hne hat.has
      obtain rfl : p1 = p := (hat1.eq hat).2
      have hnx1 : Below w.heap.size w w1 := hnx.grown hg1 hnx.size (fun j hj => by cases hj; exact Nat.le_refl _)
      have hc1 := (hbx.below hnx1).cell
      have hc2 := (hbx'.below hnx1).cell
      have hlk' := run_look (hF.below hnx1).owns hx hat'
      have HHb : Hid ((s.toList == s'.toList) = b) := hb
      clear hs1 hlk hat1 hat hat' hbx hbx' hb
      go_wp2_with fail
      refine (intEq p1 p' v v _ hc1 hc2).mono ?_
      rintro e w' ⟨rfl, m, rfl⟩
      go_wp2_with fail
      have hrg2 := hrg1.below (below_drewN (Below.refl _ w1) m)
      go_roundw
      case rel => exact ⟨_, cnt1, hrg2, fun h => by rw [HL.out h, sameKey_ne (Ne.symm hne)]; rfl, below_drewN hnx1 m⟩
      case measure => rw [hrg2.left_eq, hrg.left_eq]; exact hlt1
    · intro x p w1 cnt1 hx hlk hat hrg1 hlt1 hg1 hs1 hen
      have hxm : keyLit x = keyLit modKey := by
        by_cases hne : keyLit x = keyLit modKey
        · exact hne
        · obtain ⟨p1, p', v, hat1, _⟩ := HI.out _ hne hat.has
          exact absurd (hat1.eq hat).1 (by decide)
      obtain rfl : p = q := ((hxm ▸ hat : At E (keyLit modKey) 45 p).eq hq).2
      have hnx1 : Below w.heap.size w w1 := hnx.grown hg1 hnx.size (fun j hj => by cases hj; exact Nat.le_refl _)
      have hc1 := (hs.below hnx1).cell
      have hc2 := (hs'.below hnx1).cell
      have hlk' := run_look (hF.below hnx1).owns hx (hxm ▸ hq')
      have HX : Hid (keyLit x = keyLit modKey) := hxm
      clear hs1 hlk hat hxm
      cases b with
      | false =>
        go_wp2_with fail
        refine (strEq p q' s s' _ hc1 hc2).mono ?_
        rintro e w' ⟨rfl, m, rfl⟩
        go_wp2_with fail
        go_ret
        exact ⟨rfl, below_drewN hnx1 m⟩
      | true =>
        go_wp2_with fail
        refine (strEq p q' s s' _ hc1 hc2).mono ?_
        rintro e w' ⟨rfl, m, rfl⟩
        go_wp2_with fail
        have hrg2 := hrg1.below (below_drewN (Below.refl _ w1) m)
        go_roundw
        case rel => exact ⟨_, cnt1, hrg2, fun h => (by cases h), below_drewN hnx1 m⟩
        case measure => rw [hrg2.left_eq, hrg.left_eq]; exact hlt1

end Go.Proofs.Yoeepw
