/-
  SEAT oeep: closed facts of this program and small contracts (the leaves). Typed by an AI agent. Nothing here is trusted.
-/
import Derived.Test.YoeepwRows
import Derived.WalkKit
import Derived.WalkSpells
import Derived.WalkLawsBesides
import Derived.Maps.RangeWalk
import Derived.Maps.Ext
import Derived.Deep.QuietTactic
import Derived.BigQuiet
namespace Go.Proofs.Yoeepw
open Go.RowKit Go.Maps

theorem as57_57 (v : Value) (w : World) : (Instr.typeAssert (.iface 57 v) 49 57 true).run Eepg.prog w = .ok (.tuple #[v, .bool true]) w := by kernel_rfl
theorem as45_45 (v : Value) (w : World) : (Instr.typeAssert (.iface 45 v) 49 45 true).run Eepg.prog w = .ok (.tuple #[v, .bool true]) w := by kernel_rfl
theorem as34_64 (v : Value) (w : World) : (Instr.typeAssert (.iface 34 v) 49 64 true).run Eepg.prog w = .ok (.tuple #[.pointer none, .bool false]) w := by kernel_rfl
theorem as34_34 (v : Value) (w : World) : (Instr.typeAssert (.iface 34 v) 49 34 true).run Eepg.prog w = .ok (.tuple #[v, .bool true]) w := by kernel_rfl
theorem as20_34 (v : Value) (w : World) : (Instr.typeAssert (.iface 34 v) 20 34 true).run Eepg.prog w = .ok (.tuple #[v, .bool true]) w := by kernel_rfl
theorem law9 : Keyed Eepg.prog 9 := string_keyed Eepg.underlying9
theorem zero49 (w : World) : (zeroValue 49).run Eepg.prog w = .ok .nilIface w := by kernel_rfl

set_option maxHeartbeats 400000 in
theorem pairs_any (a1 : Option Addr) (n1 c1 : Nat) (a2 : Option Addr) (n2 c2 : Nat) (w : World) :
    Calls Eepg.prog 19 #[.slice a1 n1 c1, .slice a2 n2 c2] w fun e w' => e = .returned (.int .i64 ((min n1 n2 : Nat) : Int)) ∧ w' = w := by
  by_cases h : n2 < n1
  · rw [Nat.min_eq_right (by omega)]
    go_enter Eepg.func19, Eepg.ntmps19
    go_wp2
    go_ret
    exact ⟨rfl, rfl⟩
  · rw [Nat.min_eq_left (by omega)]
    go_enter Eepg.func19, Eepg.ntmps19
    go_wp2
    go_ret
    exact ⟨rfl, rfl⟩

set_option maxHeartbeats 400000 in
theorem pairs_min (n : Nat) (a1 : Option Addr) (n1 c1 : Nat) (a2 : Option Addr) (n2 c2 : Nat) (w : World) (hn : Hid (n = min n1 n2)) :
    Calls Eepg.prog 19 #[.slice a1 n1 c1, .slice a2 n2 c2] w fun e w' => e = .returned (.int .i64 (n : Int)) ∧ w' = w := by
  rw [hn.out]
  exact pairs_any a1 n1 c1 a2 n2 c2 w

set_option maxHeartbeats 400000 in
theorem asInt_int (p : Addr) (w : World) :
    Calls Eepg.prog 20 #[.iface 57 (.pointer (some p))] w fun e w' => e = .returned (.tuple #[.pointer (some p), .bool true]) ∧ w' = w := by
  have h := as57_57
  go_enter Eepg.func20, Eepg.ntmps20
  go_wp2
  go_ret2
  exact ⟨rfl, rfl⟩

set_option maxHeartbeats 400000 in
theorem asString_str (p : Addr) (w : World) :
    Calls Eepg.prog 17 #[.iface 45 (.pointer (some p))] w fun e w' => e = .returned (.tuple #[.pointer (some p), .bool true]) ∧ w' = w := by
  have h := as45_45
  go_enter Eepg.func17, Eepg.ntmps17
  go_wp2
  go_ret2
  exact ⟨rfl, rfl⟩

set_option maxHeartbeats 400000 in
theorem asIm_im (p : Addr) (w : World) :
    Calls Eepg.prog 13 #[.iface 34 (.pointer (some p))] w fun e w' => e = .returned (.tuple #[.pointer (some p), .bool true]) ∧ w' = w := by
  have h := as20_34
  go_enter Eepg.func13, Eepg.ntmps13
  go_wp2
  go_ret2
  exact ⟨rfl, rfl⟩

/-- Int.Copy -/
theorem intCopy (p : Nat) (v : Int) (w : World) (hc : w.cell? ⟨p, 0, none⟩ = some (.int .i64 v)) :
    Calls Eepg.prog 46 #[.pointer (some ⟨p, 0, none⟩)] w fun e w' => e = .returned (.iface 57 (.pointer (some ⟨w.heap.size, 0, none⟩))) ∧ w' = w.alloc (.cells #[.int .i64 v] 61) := by
  go_enter Eepg.func46, Eepg.ntmps46
  go_wp2
  go_ret
  exact ⟨rfl, rfl⟩

/-- Int.Equals -/
theorem intEq (p q : Nat) (v u : Int) (w : World) (hc : w.cell? ⟨p, 0, none⟩ = some (.int .i64 v)) (hd : w.cell? ⟨q, 0, none⟩ = some (.int .i64 u)) :
    Calls Eepg.prog 47 #[.pointer (some ⟨p, 0, none⟩), .iface 57 (.pointer (some ⟨q, 0, none⟩))] w fun e w' => e = .returned (.bool (v == u)) ∧ ∃ n, w' = w.drewN n := by
  have h := as57_57
  go_enter Eepg.func47, Eepg.ntmps47
  go_wp2
  go_quiet (fail)
  go_wp2
  go_ret
  exact ⟨rfl, _, rfl⟩

/-- String.Equals -/
theorem strEq (p q : Nat) (v u : ByteArray) (w : World) (hc : w.cell? ⟨p, 0, none⟩ = some (.string v)) (hd : w.cell? ⟨q, 0, none⟩ = some (.string u)) :
    Calls Eepg.prog 41 #[.pointer (some ⟨p, 0, none⟩), .iface 45 (.pointer (some ⟨q, 0, none⟩))] w fun e w' => e = .returned (.bool (v.toList == u.toList)) ∧ ∃ n, w' = w.drewN n := by
  have h := as45_45
  go_enter Eepg.func41, Eepg.ntmps41
  go_wp2
  go_quiet (fail)
  go_wp2
  go_ret
  exact ⟨rfl, _, rfl⟩

end Go.Proofs.Yoeepw
