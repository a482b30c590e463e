/-
  SEAT oeep: the walk of FnAsImmutableMapLeavesModuleAndCopiesFresh. Typed by an AI agent. Nothing here is trusted.
-/
import Derived.Test.YoeepwImport
import Derived.Deep.OwnRows
namespace Go.Proofs.Yoeepw
open Go.RowKit Go.Maps

theorem info57 : (Eepg.prog.info? 57).map (fun i => (i.zero, i.size, i.bytes)) = some (some (.pointer none), 1, 8) := by kernel_rfl

theorem neq57_same (a : Addr) (w : World) : (binOp .neq 57 (.pointer (some a)) (.pointer (some a))).run Eepg.prog w = .ok (.bool false) w := by
  obtain ⟨i0, hi, _, _, _⟩ := info_parts info61
  have h : ∀ d : Nat, (Op.equalIn (d + 1) 57 (.pointer (some a)) (.pointer (some a))).run Eepg.prog w = .ok true w := fun d => by
    simp [Op.equalIn, run_underlying Eepg.underlying57, sizeOf, typeInfo, hi, run_sameAddr_same]
  simp only [binOp]
  simp [Op.equal, Op.maxDepth, h 9999]

/-- The block that the element at kl leads to; the integer that block p holds. -/
def pOf (D : DataW (Nat × Nat)) (kl : Lit) : Nat := match D.atKey kl .nil with
  | .held x => x.2
  | _ => 0
def vOf (w : World) (p : Nat) : Int := match w.cell? ⟨p, 0, none⟩ with
  | some (.int _ v) => v
  | _ => 0
theorem At.pOf {D : DataW (Nat × Nat)} {kl : Lit} {t p : Nat} (h : At D kl t p) : pOf D kl = p := by
  unfold Yoeepw.pOf
  rw [h]
theorem IntBox.vOf {w : World} {p : Nat} {v : Int} (h : IntBox w p v) : vOf w p = v := by
  unfold Yoeepw.vOf
  rw [h.cell]

/-- Behind k rounds of the first loop: the two rows that the call made hold the first k pointers and numbers. -/
structure Noted (w3 wr : World) (n k : Nat) (PV : Nat → Nat × Int) : Prop where
  below : Below w3.heap.size w3 wr
  rows : ∃ r1 r2, wr.rowIs w3.heap.size 57 n r1 ∧ wr.rowIs (w3.heap.size + 1) 2 n r2 ∧ ∀ j, j < k → r1 j = .pointer (some ⟨(PV j).1, 0, none⟩) ∧ r2 j = .int .i64 (PV j).2

theorem Noted.start (w3 : World) (n : Nat) (PV : Nat → Nat × Int) : Noted w3 ((w3.alloc (.cells (madeCells #[.pointer none] n) 57)).alloc (.cells (madeCells #[.int .i64 0] n) 2)) n 0 PV := by
  have h := World.rowIs_made (w3.alloc (.cells (madeCells #[.pointer none] n) 57)) (.int .i64 0) n 2
  rw [show (w3.alloc (.cells (madeCells #[.pointer none] n) 57)).heap.size = w3.heap.size + 1 by simp] at h
  exact ⟨((Below.refl _ _).alloc (Nat.le_refl _) _).alloc (by simp) _, _, _, (World.rowIs_made w3 (.pointer none) n 57).alloc _, h, fun j hj => by omega⟩

theorem Noted.step {w3 wr : World} {n k : Nat} {PV : Nat → Nat × Int} (h : Noted w3 wr n k PV) (m : Nat) (p : Nat) (v : Int) (hp : PV k = (p, v)) :
    Noted w3 (((wr.drewN m).setCell ⟨w3.heap.size, k, none⟩ (.pointer (some ⟨p, 0, none⟩))).setCell ⟨w3.heap.size + 1, k, none⟩ (.int .i64 v)) n (k + 1) PV := by
  obtain ⟨r1, r2, h1, h2, hr⟩ := h.rows
  refine ⟨((below_drewN h.below m).setCell (Nat.le_refl _) _).setCell (by simp) _, _, _, ((h1.of_block (w' := wr.drewN m) rfl).set k _).setOther (by simp) _, ((h2.of_block (w' := wr.drewN m) rfl).setOther (by simp) _).set k _, fun j hj => ?_⟩
  by_cases e : j = k
  · subst e
    simp [hp]
  · simp only [e, if_false]
    exact hr j (by omega)

set_option maxRecDepth 100000 in
set_option maxHeartbeats 1000000 in
theorem fresh6_core (a1 : Option Addr) (n1 c1 : Nat) (a2 : Option Addr) (n2 c2 : Nat) (name : ByteArray) (f : Nat → ByteArray) (g : Nat → Int) (w : World) (hn1 : n1 ≤ 4096) (hn2 : n2 ≤ 4096) (hnm : name.size ≤ 65536) (h1 : StrsAt w a1 n1 f) (h2 : IntsAt w a2 n2 g) :
    Calls Eepg.prog 6 #[.slice a1 n1 c1, .slice a2 n2 c2, .string name] w (Lawful w) := by
  have H1 : Hid (StrsAt w a1 n1 f) := h1
  have H2 : Hid (IntsAt w a2 n2 g) := h2
  clear h1 h2
  have d1 : decide ((4096 : Int) < (n1 : Int)) = false := by simp; omega
  have d2 : decide ((4096 : Int) < (n2 : Int)) = false := by simp; omega
  have d3 : decide ((65536 : Int) < (name.size : Int)) = false := by simp; omega
  go_enter Eepg.func6, Eepg.ntmps6
  go_wp2_with fail
  refine (sameWorld (bound21 _ _ _ _ _ _ _ f _ (by unfold maxLen; omega) (by unfold maxLen; omega) (by unfold maxLen; omega) H1.out)).mono ?_
  rintro e w' ⟨⟨r, rfl⟩, rfl⟩
  cases r
  · go_wp2_with fail
    go_ret
    exact ⟨rfl, Below.refl _ _⟩
  go_wp2_with fail
  refine (sameWorld (bytes8 _ _ _ _ _ _ _ _ f _ (by unfold maxLen; omega) H1.out)).mono ?_
  rintro e w' ⟨⟨z, rfl⟩, rfl⟩
  by_cases hz : (1048576 : Int) < z
  · go_wp2_with fail
    go_ret
    exact ⟨rfl, Below.refl _ _⟩
  have d4 : decide ((1048576 : Int) < z) = false := by simp; omega
  go_wp2_with fail
  refine (clone9 _ _ _ f _ hn1 H1.out).mono ?_
  rintro e w1 ⟨a1', c1', rfl, hs1, hb1⟩
  have HS : Hid (StrsAt w1 a1' n1 f) := hs1
  clear hs1 H1
  go_wp2_with fail
  refine (clone10 _ _ _ g _ hn2 (H2.out.below hb1)).mono ?_
  rintro e w2 ⟨a2', c2', rfl, hs2, hb2⟩
  have HI : Hid (IntsAt w2 a2' n2 g) := hs2
  clear hs2 H2
  go_wp2_with fail
  refine (module11 _ _ _ _ _ _ f g _ hn1 (HS.out.below hb2) HI.out).mono ?_
  rintro e w3 ⟨pm, bm, D, rfl, hm, hhas, hb3⟩
  obtain ⟨n, hn⟩ : ∃ n, n = min n1 n2 := ⟨_, rfl⟩
  rw [← hn] at hm hhas
  have HN : Hid (n = min n1 n2) := hn
  have hle : n ≤ n1 := by omega
  have hle' : n ≤ 4096 := by omega
  obtain ⟨PV, hpv⟩ : ∃ PV : Nat → Nat × Int, ∀ j, j < n → At D (keyLit (f j)) 57 (PV j).1 ∧ IntBox w3 (PV j).1 (PV j).2 := by
    refine ⟨fun j => (pOf D (keyLit (f j)), vOf w3 (pOf D (keyLit (f j)))), fun j hj => ?_⟩
    obtain ⟨p, v, hat, hbx⟩ := hm.elems _ (hhas j hj)
    simp only [hat.pOf, hbx.vOf]
    exact ⟨hat, hbx⟩
  have HPV : Hid (∀ j, j < n → At D (keyLit (f j)) 57 (PV j).1 ∧ IntBox w3 (PV j).1 (PV j).2) := hpv
  clear hn hhas hpv
  have hss := (HS.out.below hb2).below hb3
  have HS3 : Hid (StrsAt w3 a1' n1 f) := hss
  have hB : Below w.heap.size w w3 := (hb1.trans (hb2.mono hb1.size)).trans (hb3.mono (Nat.le_trans hb1.size hb2.size))
  clear HI HS hss hb1 hb2 hb3
  go_wp2_with fail
  refine (sameWorld (pairs_min n _ _ _ _ _ _ _ HN)).mono ?_
  rintro e w' ⟨rfl, rfl⟩
  clear HN
  have hmk1 := run_make_row' (P := Eepg.prog) 62 57 (.pointer none) 8 Eepg.underlying62 info57 rfl .i64 .i64 n (by omega) (by omega)
  have hmk2 := run_make_row' (P := Eepg.prog) 23 2 (.int .i64 0) 8 Eepg.underlying23 info2 rfl .i64 .i64 n (by omega) (by omega)
  go_wp2_with fail
  clear hmk1 hmk2 d1 d2 d3 d4
  go_loopw [11] (fun i wr => ∃ (k : Nat), k ≤ n ∧ i = .int .i64 k ∧ Noted w3 wr n k PV) (fun i _ => n - (intOf i).toNat)
  case atStart => exact ⟨0, Nat.zero_le _, rfl, Noted.start w3 n PV⟩
  case round =>
    obtain ⟨k, hk, rfl, hno⟩ := hrel
    by_cases hlt : k < n
    · have hb := hno.below
      rcases HS3.out with h0 | ⟨b, off, rfl, hc⟩
      · omega
      obtain ⟨s, hsk, hcs, hls⟩ : ∃ s : ByteArray, Hid (s = f k) ∧ wr.cell? ⟨b, off + k, none⟩ = some (.string s) ∧ s.size ≤ maxLen := ⟨_, rfl, cell_later hb (hc k (by omega)).1, (hc k (by omega)).2⟩
      obtain ⟨p, v, hp, hat, hbx⟩ : ∃ p v, Hid (PV k = (p, v)) ∧ At D (keyLit s) 57 p ∧ IntBox w3 p v := ⟨_, _, rfl, by rw [hsk.out]; exact (HPV.out k hlt).1, (HPV.out k hlt).2⟩
      have hpl := hbx.lt
      have hlk := fun nq => run_look ((hm.below hb).owns.below (below_drewN (Below.refl _ wr) nq)) hls hat
      have hmc := (hm.below hb).cell
      have hcp := (hbx.below hb).cell
      obtain ⟨r1, r2, hr1, hr2, _⟩ := hno.rows
      have hx1 := hr1.cell hlt
      have hx2 := hr2.cell hlt
      have hf1 := hr1.frozen k
      have hf2 := hr2.frozen k
      have hk1 : k < n1 := by omega
      have hpn : ¬ p = w3.heap.size := by omega
      clear hc HS3 HPV hr1 hr2 hat hbx
      go_wp2_with fail
      go_quiet ((go_at_call 20; exact Calls.quiet_of_same (asInt_int _ _)))
      go_wp2_with fail
      go_roundw
      case rel => exact ⟨k + 1, by omega, by go_num, hno.step nq p v hp.out⟩
      case measure => simp [intOf]; omega
    · obtain rfl : k = n := by omega
      obtain ⟨wl, hwl⟩ : ∃ wl, wl = wr := ⟨_, rfl⟩
      subst hwl
      have hb := hno.below
      have hmr := hm.below hb
      have hmc := hmr.cell
      have hlen := World.ownsMap.len hmr.owns Eepg.underlying40 3
      obtain ⟨v0, hl0⟩ := run_look_ok (s := ⟨#[95, 95, 109, 111, 100, 117, 108, 101, 95, 110, 97, 109, 101, 95, 95]⟩) hmr.owns (by decide)
      obtain ⟨hadB, HH⟩ : ∃ b, Hid (Maps.has D (keyLit ⟨#[95, 95, 109, 111, 100, 117, 108, 101, 95, 110, 97, 109, 101, 95, 95]⟩) = b) := ⟨_, rfl⟩
      rw [HH.out] at hl0
      obtain ⟨r1, r2, hr1, hr2, hrr⟩ := hno.rows
      have HR : Hid (∀ j, j < k → wl.cell? ⟨w3.heap.size, j, none⟩ = some (.pointer (some ⟨(PV j).1, 0, none⟩)) ∧ wl.cell? ⟨w3.heap.size + 1, j, none⟩ = some (.int .i64 (PV j).2)) := fun j hj => ⟨by rw [hr1.cell hj, (hrr j hj).1], by rw [hr2.cell hj, (hrr j hj).2]⟩
      have HSr : Hid (StrsAt wl a1' n1 f) := HS3.out.below hb
      have HM : Hid (ModElems wl D) := hmr.elems
      have HP : Hid (∀ j, j < k → At D (keyLit (f j)) 57 (PV j).1 ∧ IntBox wl (PV j).1 (PV j).2) := fun j hj => ⟨(HPV.out j hj).1, (HPV.out j hj).2.below hb⟩
      have hBr : Below w.heap.size w wl := hB.trans (hb.mono hB.size)
      clear hr1 hr2 hrr HS3 HPV hno hb hB hm
      go_wp2_with fail
      refine (asMap14 pm bm k D name _ hmr hle').mono ?_
      rintro e w4 ⟨pa, ba, Ea, rfl, hpa, hia, hca, hb4⟩
      have hm4 := hmr.below hb4
      clear hlen hmc hl0
      go_wp2_with fail
      refine (asMap14 pm bm k D name _ hm4 hle').mono ?_
      rintro e w5 ⟨pb, bb, Eb, rfl, hpb, hib, hcb, hb5⟩
      have hm5 := hm4.below hb5
      have hia5 := hia.below hb5
      have hca5 := hca.below hb5
      have hpab : pa < w4.heap.size := (Array.getElem?_eq_some_iff.1 hia.box).1
      have hq34 := eql34_other hia5 hib (by omega)
      have hmc := hm5.cell
      have hlen := World.ownsMap.len hm5.owns Eepg.underlying40 3
      obtain ⟨v1, hl0⟩ := run_look_ok (s := ⟨#[95, 95, 109, 111, 100, 117, 108, 101, 95, 110, 97, 109, 101, 95, 95]⟩) hm5.owns (by decide)
      rw [HH.out] at hl0
      have hB5 : Below wl.heap.size wl w5 := hb4.trans (hb5.mono hb4.size)
      go_wp2_with fail
      have HC : Hid (∀ kl, Maps.has D kl = true → kl ≠ keyLit modKey → ∃ p p' v v', At Ea kl 57 p ∧ At Eb kl 57 p' ∧ p ≠ p' ∧ IntBox w5 p v ∧ IntBox w5 p' v') := by
        intro kl hk hne
        obtain ⟨_, p, v, _, b, _, _, e⟩ := hca.ints kl hne hk
        obtain ⟨_, p', v', _, b', c', _, e'⟩ := hcb.ints kl hne hk
        have := e.lt
        exact ⟨p, p', v, v', b, b', by omega, e.below hb5, e'⟩
      clear hl0 hlen hmc hq34 hca hb4 hb5 hpab hia hm4 hmr HH hpa hpb
      go_loopw [21] (fun i wr => ∃ (j : Nat), j ≤ k ∧ i = .int .i64 j ∧ Below w5.heap.size w5 wr) (fun i _ => k - (intOf i).toNat)
      case atStart => exact ⟨0, Nat.zero_le _, rfl, Below.refl _ _⟩
      case round =>
        obtain ⟨j, hj, rfl, hbs⟩ := hrel
        by_cases hjt : j < k
        · rcases HSr.out with h0 | ⟨b, off, rfl, hc⟩
          · omega
          have hb5s : Below wl.heap.size wl wr := hB5.trans (hbs.mono hB5.size)
          obtain ⟨s, hsj, hcs, hls⟩ : ∃ s : ByteArray, Hid (s = f j) ∧ wl.cell? ⟨b, off + j, none⟩ = some (.string s) ∧ s.size ≤ maxLen := ⟨_, rfl, (hc j (by omega)).1, (hc j (by omega)).2⟩
          obtain ⟨p, v, hat, hbx, hrw1, hrw2⟩ : ∃ p v, At D (keyLit s) 57 p ∧ IntBox wl p v ∧ wl.cell? ⟨w3.heap.size, j, none⟩ = some (.pointer (some ⟨p, 0, none⟩)) ∧ wl.cell? ⟨w3.heap.size + 1, j, none⟩ = some (.int .i64 v) :=
            ⟨_, _, by rw [hsj.out]; exact (HP.out j hjt).1, (HP.out j hjt).2, (HR.out j hjt).1, (HR.out j hjt).2⟩
          have hj1 : j < n1 := by omega
          have HCS : Hid (wl.cell? ⟨b, off + j, none⟩ = some (.string s)) := hcs
          have HBX : Hid (IntBox wl p v) := hbx
          have HR1 : Hid (wl.cell? ⟨w3.heap.size, j, none⟩ = some (.pointer (some ⟨p, 0, none⟩))) := hrw1
          have HR2 : Hid (wl.cell? ⟨w3.heap.size + 1, j, none⟩ = some (.int .i64 v)) := hrw2
          clear hc HSr HP HR hcs hbx hrw1 hrw2
          have g1 := cell_later hb5s HCS.out
          have g2 := (hm5.below hbs).cell
          have g3 := fun nq => run_look ((hm5.below hbs).owns.below (below_drewN (Below.refl _ wr) nq)) hls hat
          go_wp2_with fail
          go_quiet ((go_at_call 20; exact Calls.quiet_of_same (asInt_int _ _)))
          have hbs6 := below_drewN hbs nq
          have hb6 := below_drewN hb5s nq
          clear g1 g2 g3 hbs hb5s
          generalize wr.drewN nq = w6 at hbs6 hb6 ⊢
          have g1 := (HBX.out.below hb6).cell
          have g2 := cell_later hb6 HR1.out
          have g3 := cell_later hb6 HR2.out
          have g4 := neq57_same ⟨p, 0, none⟩
          go_wp2_with fail
          go_quiet (fail)
          have hbs7 := below_drewN hbs6 nq
          have hb7 := below_drewN hb6 nq
          clear g1 g2 g3 g4 hbs6 hb6
          generalize w6.drewN nq = w7 at hbs7 hb7 ⊢
          have g1 := cell_later hb7 HCS.out
          cases hks : (s.toList == [95, 95, 109, 111, 100, 117, 108, 101, 95, 110, 97, 109, 101, 95, 95])
          · obtain ⟨p1, p2, u1, u2, hat1, hat2, hpp, hbx1, hbx2⟩ := HC.out _ hat.has (ne_modKey hks)
            have HB1 : Hid (IntBox w5 p1 u1) := hbx1
            have HB2 : Hid (IntBox w5 p2 u2) := hbx2
            have g2 := (hia5.below hbs7).cell
            have g3 := fun nq => run_look ((hia5.below hbs7).owns.below (below_drewN (Below.refl _ w7) nq)) hls hat1
            clear hbx1 hbx2
            go_wp2_with fail
            go_quiet ((go_at_call 20; exact Calls.quiet_of_same (asInt_int _ _)))
            have hbs8 := below_drewN hbs7 nq
            have hb8 := below_drewN hb7 nq
            clear g1 g2 g3 hbs7 hb7
            generalize w7.drewN nq = w8 at hbs8 hb8 ⊢
            have g1 := cell_later hb8 HCS.out
            have g2 := (hib.below hbs8).cell
            have g3 := fun nq => run_look ((hib.below hbs8).owns.below (below_drewN (Below.refl _ w8) nq)) hls hat2
            go_wp2_with fail
            go_quiet ((go_at_call 20; exact Calls.quiet_of_same (asInt_int _ _)))
            have hbs9 := below_drewN hbs8 nq
            clear g1 g2 g3 hbs8 hb8
            generalize w8.drewN nq = w9 at hbs9 ⊢
            have g1 := eql57_other (HB1.out.below hbs9) (HB2.out.below hbs9) hpp
            go_wp2_with fail
            go_roundw
            case rel => exact ⟨j + 1, by omega, by go_num, hbs9⟩
            case measure => simp [intOf]; omega
          · go_wp2_with fail
            go_roundw
            case rel => exact ⟨j + 1, by omega, by go_num, hbs7⟩
            case measure => simp [intOf]; omega
        · go_wp2_with fail
          refine (equals_copies pa ba pb bb D Ea Eb _ _ name name _ (hia5.below hbs) (hib.below hbs) (hca5.below hbs) (hcb.below hbs)).mono ?_
          rintro e w6 ⟨he, hb6⟩
          rw [beq_self_eq_true] at he
          subst he
          go_wp2_with fail
          go_ret
          exact ⟨rfl, (hBr.trans (hB5.mono hBr.size)).trans ((hbs.trans (hb6.mono hbs.size)).mono (Nat.le_trans hBr.size hB5.size))⟩

set_option maxRecDepth 100000 in
set_option maxHeartbeats 1000000 in
theorem fresh6 (a1 : Option Addr) (n1 c1 : Nat) (a2 : Option Addr) (n2 c2 : Nat) (name : ByteArray) (f : Nat → ByteArray) (g : Nat → Int) (w : World) (hn1 : n1 ≤ maxLen) (hn2 : n2 ≤ maxLen) (hnm0 : name.size ≤ maxLen) (h1 : StrsAt w a1 n1 f) (h2 : IntsAt w a2 n2 g) :
    Calls Eepg.prog 6 #[.slice a1 n1 c1, .slice a2 n2 c2, .string name] w (Lawful w) := by
  by_cases hin : n1 ≤ 4096 ∧ n2 ≤ 4096 ∧ name.size ≤ 65536
  · exact fresh6_core a1 n1 c1 a2 n2 c2 name f g w hin.1 hin.2.1 hin.2.2 h1 h2
  · have HB := bound21 a1 n1 c1 a2 n2 c2 name f w hn1 hn2 hnm0 h1
    clear h1 h2
    have HB' := sameWorld HB
    clear HB
    by_cases hc0 : (4096 : Int) < (n1 : Int)
    · have d0 : decide ((4096 : Int) < (n1 : Int)) = true := by simp; omega
      go_enter Eepg.func6, Eepg.ntmps6
      go_wp2_with fail
      refine HB'.mono ?_
      rintro e w' ⟨⟨r, rfl⟩, rfl⟩
      cases r
      all_goals
        go_wp2_with fail
        go_ret
        exact ⟨rfl, Below.refl _ _⟩
    · have d0 : decide ((4096 : Int) < (n1 : Int)) = false := by simp; omega
      by_cases hc1 : (4096 : Int) < (n2 : Int)
      · have d1 : decide ((4096 : Int) < (n2 : Int)) = true := by simp; omega
        go_enter Eepg.func6, Eepg.ntmps6
        go_wp2_with fail
        refine HB'.mono ?_
        rintro e w' ⟨⟨r, rfl⟩, rfl⟩
        cases r
        all_goals
          go_wp2_with fail
          go_ret
          exact ⟨rfl, Below.refl _ _⟩
      · have d1 : decide ((4096 : Int) < (n2 : Int)) = false := by simp; omega
        have d2 : decide ((65536 : Int) < (name.size : Int)) = true := by simp; omega
        go_enter Eepg.func6, Eepg.ntmps6
        go_wp2_with fail
        refine HB'.mono ?_
        rintro e w' ⟨⟨r, rfl⟩, rfl⟩
        cases r
        all_goals
          go_wp2_with fail
          go_ret
          exact ⟨rfl, Below.refl _ _⟩

end Go.Proofs.Yoeepw
