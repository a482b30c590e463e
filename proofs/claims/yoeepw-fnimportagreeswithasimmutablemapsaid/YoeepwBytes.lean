/-
  SEAT oeep: the walks of the four length bounds and of zzBytes. Typed by an AI agent. Nothing here is trusted.
-/
import Derived.Test.YoeepwBase
namespace Go.Proofs.Yoeepw
open Go.RowKit Go.Maps

/-- A slice of strings, as the walks read it: its address where it has an element, and the string in each cell. -/
def StrsAt (w : World) (a : Option Addr) (n : Nat) (f : Nat → ByteArray) : Prop :=
  n = 0 ∨ ∃ b off, a = some ⟨b, off, none⟩ ∧ ∀ i, i < n → w.cell? ⟨b, off + i, none⟩ = some (.string (f i)) ∧ (f i).size ≤ maxLen

def IsBool (e : Ending) : Prop := ∃ r : Bool, e = .returned (.bool r)
def IsInt (e : Ending) : Prop := ∃ z : Int, e = .returned (.int .i64 z)

set_option maxHeartbeats 1000000 in
theorem bound18 (a1 : Option Addr) (n1 c1 : Nat) (a2 : Option Addr) (n2 c2 : Nat) (s : ByteArray) (f : Nat → ByteArray) (w : World) (hn1 : n1 ≤ maxLen) (hn2 : n2 ≤ maxLen) (hs : s.size ≤ maxLen) (hk : StrsAt w a1 n1 f) :
    Calls Eepg.prog 18 #[.slice a1 n1 c1, .slice a2 n2 c2, .string s] w fun e w' => IsBool e ∧ w' = w := by
  unfold maxLen at hn1 hn2 hs
  by_cases h1 : (1048576 : Int) < (n1 : Int)
  · go_enter Eepg.func18, Eepg.ntmps18
    go_wp2
    go_ret
    exact ⟨⟨_, rfl⟩, rfl⟩
  · have h1d : decide ((1048576 : Int) < (n1 : Int)) = false := by simp; omega
    have HK : Hid (StrsAt w a1 n1 f) := hk
    clear hk
    go_enter Eepg.func18, Eepg.ntmps18
    go_wp2
    go_loop [7, 8] (fun z i => ∃ (k : Nat) (t : Int), k ≤ n1 ∧ i = .int .i64 k ∧ z = .int .i64 t ∧ 0 ≤ t ∧ t ≤ 1048576) (fun _ i => n1 - (intOf i).toNat)
    case atStart => exact ⟨0, n1, Nat.zero_le _, rfl, rfl, by omega, by omega⟩
    case round =>
      obtain ⟨k, t, hkn, rfl, rfl, ht0, ht1⟩ := hrel
      by_cases hlt : k < n1
      · rcases HK.out with h0 | ⟨b, off, rfl, hc⟩
        · omega
        · obtain ⟨s1, hs1, hl1⟩ : ∃ s1 : ByteArray, w.cell? ⟨b, off + k, none⟩ = some (.string s1) ∧ s1.size ≤ 9223372036854775807 := ⟨_, hc k hlt⟩
          clear hc HK
          go_wp2
          · go_ret
            exact ⟨⟨_, rfl⟩, rfl⟩
          · go_ret
            exact ⟨⟨_, rfl⟩, rfl⟩
          · go_round
            case rel => exact ⟨k + 1, t + s1.size, by omega, by go_num, rfl, by omega, by omega⟩
            case measure => simp [intOf]; omega
      · clear HK
        go_wp2
        all_goals
          go_ret
          exact ⟨⟨_, rfl⟩, rfl⟩

set_option maxHeartbeats 1000000 in
theorem bound7 (a1 : Option Addr) (n1 c1 : Nat) (a2 : Option Addr) (n2 c2 : Nat) (s : ByteArray) (f : Nat → ByteArray) (w : World) (hn1 : n1 ≤ maxLen) (hn2 : n2 ≤ maxLen) (hs : s.size ≤ maxLen) (hk : StrsAt w a1 n1 f) :
    Calls Eepg.prog 7 #[.slice a1 n1 c1, .slice a2 n2 c2, .string s] w fun e w' => IsBool e ∧ w' = w := by
  unfold maxLen at hn1 hn2 hs
  by_cases h1 : (1048576 : Int) < (n1 : Int)
  · go_enter Eepg.func7, Eepg.ntmps7
    go_wp2
    go_ret
    exact ⟨⟨_, rfl⟩, rfl⟩
  · have h1d : decide ((1048576 : Int) < (n1 : Int)) = false := by simp; omega
    have HK : Hid (StrsAt w a1 n1 f) := hk
    clear hk
    go_enter Eepg.func7, Eepg.ntmps7
    go_wp2
    go_loop [7, 8] (fun z i => ∃ (k : Nat) (t : Int), k ≤ n1 ∧ i = .int .i64 k ∧ z = .int .i64 t ∧ 0 ≤ t ∧ t ≤ 1048576) (fun _ i => n1 - (intOf i).toNat)
    case atStart => exact ⟨0, n1, Nat.zero_le _, rfl, rfl, by omega, by omega⟩
    case round =>
      obtain ⟨k, t, hkn, rfl, rfl, ht0, ht1⟩ := hrel
      by_cases hlt : k < n1
      · rcases HK.out with h0 | ⟨b, off, rfl, hc⟩
        · omega
        · obtain ⟨s1, hs1, hl1⟩ : ∃ s1 : ByteArray, w.cell? ⟨b, off + k, none⟩ = some (.string s1) ∧ s1.size ≤ 9223372036854775807 := ⟨_, hc k hlt⟩
          clear hc HK
          go_wp2
          · go_ret
            exact ⟨⟨_, rfl⟩, rfl⟩
          · go_ret
            exact ⟨⟨_, rfl⟩, rfl⟩
          · go_round
            case rel => exact ⟨k + 1, t + s1.size, by omega, by go_num, rfl, by omega, by omega⟩
            case measure => simp [intOf]; omega
      · clear HK
        go_wp2
        all_goals
          go_ret
          exact ⟨⟨_, rfl⟩, rfl⟩

set_option maxHeartbeats 1000000 in
theorem bound21 (a1 : Option Addr) (n1 c1 : Nat) (a2 : Option Addr) (n2 c2 : Nat) (s : ByteArray) (f : Nat → ByteArray) (w : World) (hn1 : n1 ≤ maxLen) (hn2 : n2 ≤ maxLen) (hs : s.size ≤ maxLen) (hk : StrsAt w a1 n1 f) :
    Calls Eepg.prog 21 #[.slice a1 n1 c1, .slice a2 n2 c2, .string s] w fun e w' => IsBool e ∧ w' = w := by
  unfold maxLen at hn1 hn2 hs
  by_cases h1 : (1048576 : Int) < (n1 : Int)
  · go_enter Eepg.func21, Eepg.ntmps21
    go_wp2
    go_ret
    exact ⟨⟨_, rfl⟩, rfl⟩
  · have h1d : decide ((1048576 : Int) < (n1 : Int)) = false := by simp; omega
    have HK : Hid (StrsAt w a1 n1 f) := hk
    clear hk
    go_enter Eepg.func21, Eepg.ntmps21
    go_wp2
    go_loop [7, 8] (fun z i => ∃ (k : Nat) (t : Int), k ≤ n1 ∧ i = .int .i64 k ∧ z = .int .i64 t ∧ 0 ≤ t ∧ t ≤ 1048576) (fun _ i => n1 - (intOf i).toNat)
    case atStart => exact ⟨0, n1, Nat.zero_le _, rfl, rfl, by omega, by omega⟩
    case round =>
      obtain ⟨k, t, hkn, rfl, rfl, ht0, ht1⟩ := hrel
      by_cases hlt : k < n1
      · rcases HK.out with h0 | ⟨b, off, rfl, hc⟩
        · omega
        · obtain ⟨s1, hs1, hl1⟩ : ∃ s1 : ByteArray, w.cell? ⟨b, off + k, none⟩ = some (.string s1) ∧ s1.size ≤ 9223372036854775807 := ⟨_, hc k hlt⟩
          clear hc HK
          go_wp2
          · go_ret
            exact ⟨⟨_, rfl⟩, rfl⟩
          · go_ret
            exact ⟨⟨_, rfl⟩, rfl⟩
          · go_round
            case rel => exact ⟨k + 1, t + s1.size, by omega, by go_num, rfl, by omega, by omega⟩
            case measure => simp [intOf]; omega
      · clear HK
        go_wp2
        all_goals
          go_ret
          exact ⟨⟨_, rfl⟩, rfl⟩

set_option maxHeartbeats 1000000 in
theorem bound16 (a1 : Option Addr) (n1 c1 : Nat) (a2 : Option Addr) (n2 c2 : Nat) (s : ByteArray) (s' : ByteArray) (f : Nat → ByteArray) (w : World) (hn1 : n1 ≤ maxLen) (hn2 : n2 ≤ maxLen) (hs : s.size ≤ maxLen) (hs' : s'.size ≤ maxLen) (hk : StrsAt w a1 n1 f) :
    Calls Eepg.prog 16 #[.slice a1 n1 c1, .slice a2 n2 c2, .string s, .string s'] w fun e w' => IsBool e ∧ w' = w := by
  unfold maxLen at hn1 hn2 hs hs'
  by_cases h1 : (1048576 : Int) < (n1 : Int)
  · go_enter Eepg.func16, Eepg.ntmps16
    go_wp2
    go_ret
    exact ⟨⟨_, rfl⟩, rfl⟩
  · have h1d : decide ((1048576 : Int) < (n1 : Int)) = false := by simp; omega
    have HK : Hid (StrsAt w a1 n1 f) := hk
    clear hk
    go_enter Eepg.func16, Eepg.ntmps16
    go_wp2
    go_loop [9, 10] (fun z i => ∃ (k : Nat) (t : Int), k ≤ n1 ∧ i = .int .i64 k ∧ z = .int .i64 t ∧ 0 ≤ t ∧ t ≤ 1048576) (fun _ i => n1 - (intOf i).toNat)
    case atStart => exact ⟨0, n1, Nat.zero_le _, rfl, rfl, by omega, by omega⟩
    case round =>
      obtain ⟨k, t, hkn, rfl, rfl, ht0, ht1⟩ := hrel
      by_cases hlt : k < n1
      · rcases HK.out with h0 | ⟨b, off, rfl, hc⟩
        · omega
        · obtain ⟨s1, hs1, hl1⟩ : ∃ s1 : ByteArray, w.cell? ⟨b, off + k, none⟩ = some (.string s1) ∧ s1.size ≤ 9223372036854775807 := ⟨_, hc k hlt⟩
          clear hc HK
          go_wp2
          · go_ret
            exact ⟨⟨_, rfl⟩, rfl⟩
          · go_ret
            exact ⟨⟨_, rfl⟩, rfl⟩
          · go_round
            case rel => exact ⟨k + 1, t + s1.size, by omega, by go_num, rfl, by omega, by omega⟩
            case measure => simp [intOf]; omega
      · clear HK
        go_wp2
        all_goals
          go_ret
          exact ⟨⟨_, rfl⟩, rfl⟩

set_option maxHeartbeats 1000000 in
theorem bytes8 (a1 : Option Addr) (n1 c1 : Nat) (a2 : Option Addr) (n2 c2 : Nat) (s s' : ByteArray) (f : Nat → ByteArray) (w : World) (hn1 : n1 ≤ maxLen) (hk : StrsAt w a1 n1 f) :
    Calls Eepg.prog 8 #[.slice a1 n1 c1, .slice a2 n2 c2, .string s, .string s'] w fun e w' => IsInt e ∧ w' = w := by
  unfold maxLen at hn1
  have HK : Hid (StrsAt w a1 n1 f) := hk
  clear hk
  go_enter Eepg.func8, Eepg.ntmps8
  go_wp2
  go_loop [9, 10] (fun z i => ∃ (k : Nat) (t : Int), k ≤ n1 ∧ i = .int .i64 k ∧ z = .int .i64 t) (fun _ i => n1 - (intOf i).toNat)
  case atStart => exact ⟨0, _, Nat.zero_le _, rfl, rfl⟩
  case round =>
    obtain ⟨k, t, hkn, rfl, rfl⟩ := hrel
    by_cases hlt : k < n1
    · rcases HK.out with h0 | ⟨b, off, rfl, hc⟩
      · omega
      · obtain ⟨s1, hs1, hl1⟩ : ∃ s1 : ByteArray, w.cell? ⟨b, off + k, none⟩ = some (.string s1) ∧ s1.size ≤ 9223372036854775807 := ⟨_, hc k hlt⟩
        clear hc HK
        go_wp2
        go_round
        case rel => exact ⟨k + 1, _, by omega, by go_num, rfl⟩
        case measure => simp [intOf]; omega
    · clear HK
      go_wp2
      go_ret
      exact ⟨⟨_, rfl⟩, rfl⟩

end Go.Proofs.Yoeepw
