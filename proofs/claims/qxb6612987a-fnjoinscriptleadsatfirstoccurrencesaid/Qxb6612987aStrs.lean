/-
  Seat Qxb6612987a: zzBytes and zzAddStrings over a slice of strings: they only read, and answer something.
-/
import Derived.Test.Qxb6612987aRows
import Derived.WalkKit
import Derived.WalkSpells
import Derived.WalkLawsBesides
namespace Go.Proofs.Qxb6612987a
open Go.RowKit
set_option linter.unusedVariables false

def RetBool (e : Ending) : Prop := ∃ c, e = .returned (.bool c)
def RetInt (e : Ending) : Prop := ∃ c, e = .returned (.int .i64 c)
theorem RetBool.mk (c : Bool) : RetBool (.returned (.bool c)) := ⟨c, rfl⟩
theorem RetInt.mk (c : Int) : RetInt (.returned (.int .i64 c)) := ⟨c, rfl⟩

set_option maxHeartbeats 800000 in
theorem bytes17_any (b off len cap : Nat) (ss : Nat → ByteArray) (w : World) (hl : len ≤ maxLen) (hc : ∀ i, i < len → w.cell? ⟨b, off + i, none⟩ = some (.string (ss i))) (hs : ∀ i, (ss i).size ≤ maxLen) :
    Calls Try.prog 17 #[.slice (some ⟨b, off, none⟩) len cap] w fun e w' => RetBool e ∧ w = w' := by
  unfold maxLen at hl
  by_cases h1 : 1048576 < len
  · go_enter Try.func17, Try.ntmps17
    go_wp2
    go_ret
    exact ⟨⟨_, rfl⟩, rfl⟩
  · have h1' : len ≤ 1048576 := by omega
    clear h1
    go_enter Try.func17, Try.ntmps17
    go_wp2
    go_loop [3, 4] (fun n i => ∃ (k : Nat) (m : Int), k ≤ len ∧ i = .int .i64 k ∧ n = .int .i64 m ∧ 0 ≤ m ∧ m ≤ 1048576) (fun _ i => len - (intOf i).toNat)
    case atStart => exact ⟨0, len, Nat.zero_le _, rfl, by go_num, by omega, by omega⟩
    case round =>
      obtain ⟨k, m, hk, rfl, rfl, hm0, hm1⟩ := hrel
      by_cases hlt : k < len
      · have hcell := hc k hlt
        have hsz := hs k
        unfold maxLen at hsz
        by_cases h2 : 1048576 < (ss k).size
        · go_wp2
          go_ret
          exact ⟨⟨_, rfl⟩, rfl⟩
        · by_cases h3 : 1048576 < m + (ss k).size
          · go_wp2
            go_ret
            exact ⟨⟨_, rfl⟩, rfl⟩
          · go_wp2
            go_round
            case rel => exact ⟨k + 1, m + (ss k).size, by omega, by go_num, by go_num, by omega, by omega⟩
            case measure => simp [intOf]; omega
      · go_wp2
        go_ret
        exact ⟨⟨_, rfl⟩, rfl⟩

theorem bytes17_nil (a : Option Addr) (cap : Nat) (w : World) :
    Calls Try.prog 17 #[.slice a 0 cap] w fun e w' => RetBool e ∧ w = w' := by
  go_enter Try.func17, Try.ntmps17
  go_wp2
  go_loop [3, 4] (fun n i => i = .int .i64 0) (fun _ i => 0)
  case atStart => rfl
  case round =>
    subst hrel
    go_wp2
    go_ret
    exact ⟨⟨_, rfl⟩, rfl⟩

set_option maxHeartbeats 800000 in
theorem adds18_any (b off len cap : Nat) (ss : Nat → ByteArray) (w : World) (hl : len ≤ 65536) (hc : ∀ i, i < len → w.cell? ⟨b, off + i, none⟩ = some (.string (ss i))) (hs : ∀ i, (ss i).size ≤ maxLen) :
    Calls Try.prog 18 #[.int .i64 0, .slice (some ⟨b, off, none⟩) len cap] w fun e w' => RetInt e ∧ w = w' := by
  have h1 : 16 * len ≤ 1048576 := by omega
  · go_enter Try.func18, Try.ntmps18
    go_wp2
    go_loop [0, 5] (fun n i => ∃ (k : Nat) (m : Int), k ≤ len ∧ i = .int .i64 k ∧ n = .int .i64 m ∧ 0 ≤ m ∧ m ≤ 1048576) (fun _ i => len - (intOf i).toNat)
    case atStart => exact ⟨0, 16 * len, Nat.zero_le _, rfl, by go_num, by omega, by omega⟩
    case round =>
      obtain ⟨k, m, hk, rfl, rfl, hm0, hm1⟩ := hrel
      by_cases hlt : k < len
      · have hcell := hc k hlt
        have hsz := hs k
        unfold maxLen at hsz
        by_cases h2 : 1048576 < (ss k).size
        · go_wp2
          go_ret
          exact ⟨⟨_, rfl⟩, rfl⟩
        · by_cases h3 : 1048576 < m + (ss k).size
          · go_wp2
            go_ret
            exact ⟨⟨_, rfl⟩, rfl⟩
          · go_wp2
            go_round
            case rel => exact ⟨k + 1, m + (ss k).size, by omega, by go_num, by go_num, by omega, by omega⟩
            case measure => simp [intOf]; omega
      · go_wp2
        go_ret
        exact ⟨⟨_, rfl⟩, rfl⟩

theorem adds18_nil (a : Option Addr) (cap : Nat) (w : World) :
    Calls Try.prog 18 #[.int .i64 0, .slice a 0 cap] w fun e w' => RetInt e ∧ w = w' := by
  go_enter Try.func18, Try.ntmps18
  go_wp2
  go_loop [0, 5] (fun n i => i = .int .i64 0 ∧ n = .int .i64 0) (fun _ i => 0)
  case atStart => exact ⟨rfl, rfl⟩
  case round =>
    obtain ⟨rfl, rfl⟩ := hrel
    go_wp2
    go_ret
    exact ⟨⟨_, rfl⟩, rfl⟩

end Go.Proofs.Qxb6612987a
