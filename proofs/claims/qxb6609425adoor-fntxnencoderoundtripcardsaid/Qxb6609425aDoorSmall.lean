/-
  Seat Qxb6609425aDoor: the small functions: addLen, addCount, boolByte, sameBytes, sameBuffer.
-/
import Derived.Test.Qxb6609425aDoorData
namespace Go.Proofs.Qxb6609425aDoor
open Go.RowKit
set_option linter.unusedVariables false
set_option linter.unusedSimpArgs false

/-- The count, held just above the limit. -/
def sat (x : Nat) : Nat := if x ≤ 1048576 then x else 1048577

theorem sat_le (x : Nat) : sat x ≤ 1048577 := by unfold sat; split <;> omega
theorem sat_sat (a x : Nat) : sat (sat a + x) = sat (a + x) := by
  unfold sat
  split <;> split <;> (try split) <;> omega
theorem sat_small {x : Nat} (h : sat x ≤ 1048576) : x ≤ 1048576 ∧ sat x = x := by
  unfold sat at h ⊢
  split at h
  · rename_i h'
    exact ⟨h', if_pos h'⟩
  · omega

theorem addLen_any (w : World) (acc n : Nat) (ha : acc ≤ 1048577) (hn : n ≤ 9223372036854775807) :
    Calls Tryd.prog 18 #[.int .i64 (acc : Int), .int .i64 (n : Int)] w fun e w' => e = .returned (.int .i64 ((sat (acc + n) : Nat) : Int)) ∧ w = w' := by
  by_cases h1 : 1048576 < acc
  · have e1 : sat (acc + n) = 1048577 := by unfold sat; rw [if_neg (by omega)]
    rw [e1]
    clear e1
    go_enter Tryd.func18, Tryd.ntmps18
    go_wp2
    go_ret
    exact ⟨rfl, rfl⟩
  · by_cases h2 : 1048576 < acc + n
    · have e1 : sat (acc + n) = 1048577 := by unfold sat; rw [if_neg (by omega)]
      rw [e1]
      clear e1
      have h3 : (1048576 : Int) - (acc : Int) < (n : Int) := by omega
      go_enter Tryd.func18, Tryd.ntmps18
      go_wp2
      go_ret
      exact ⟨rfl, rfl⟩
    · have e1 : sat (acc + n) = acc + n := by unfold sat; rw [if_pos (by omega)]
      rw [e1]
      clear e1
      have h3 : ¬ (1048576 : Int) - (acc : Int) < (n : Int) := by omega
      go_enter Tryd.func18, Tryd.ntmps18
      go_wp2
      go_ret
      exact ⟨by push_cast; rfl, rfl⟩

theorem addCount40_any (w : World) (acc n : Nat) (ha : acc ≤ 1048577) (hn : n ≤ 9223372036854775807) :
    Calls Tryd.prog 19 #[.int .i64 (acc : Int), .int .i64 (n : Int), .int .i64 40] w fun e w' => e = .returned (.int .i64 ((sat (acc + 40 * n) : Nat) : Int)) ∧ w = w' := by
  by_cases h1 : 1048576 < acc
  · have e1 : sat (acc + 40 * n) = 1048577 := by unfold sat; rw [if_neg (by omega)]
    rw [e1]
    clear e1
    go_enter Tryd.func19, Tryd.ntmps19
    go_wp2_with fail
    go_ret
    exact ⟨rfl, rfl⟩
  · by_cases h2 : 26214 < n
    · have e1 : sat (acc + 40 * n) = 1048577 := by unfold sat; rw [if_neg (by omega)]
      rw [e1]
      clear e1
      go_enter Tryd.func19, Tryd.ntmps19
      go_wp2_with fail
      go_ret
      exact ⟨rfl, rfl⟩
    · have HA := Hid.mk (addLen_any w acc (40 * n) ha (by omega))
      have e3 : (n : Int) * 40 = ((40 * n : Nat) : Int) := by omega
      go_enter Tryd.func19, Tryd.ntmps19
      go_wp2_with fail
      refine HA.out.mono ?_
      rintro e w' ⟨rfl, rfl⟩
      go_wp2_with fail
      go_ret
      exact ⟨rfl, rfl⟩

theorem addCount32_any (w : World) (acc n : Nat) (ha : acc ≤ 1048577) (hn : n ≤ 9223372036854775807) :
    Calls Tryd.prog 19 #[.int .i64 (acc : Int), .int .i64 (n : Int), .int .i64 32] w fun e w' => e = .returned (.int .i64 ((sat (acc + 32 * n) : Nat) : Int)) ∧ w = w' := by
  by_cases h1 : 1048576 < acc
  · have e1 : sat (acc + 32 * n) = 1048577 := by unfold sat; rw [if_neg (by omega)]
    rw [e1]
    clear e1
    go_enter Tryd.func19, Tryd.ntmps19
    go_wp2_with fail
    go_ret
    exact ⟨rfl, rfl⟩
  · by_cases h2 : 32768 < n
    · have e1 : sat (acc + 32 * n) = 1048577 := by unfold sat; rw [if_neg (by omega)]
      rw [e1]
      clear e1
      go_enter Tryd.func19, Tryd.ntmps19
      go_wp2_with fail
      go_ret
      exact ⟨rfl, rfl⟩
    · have HA := Hid.mk (addLen_any w acc (32 * n) ha (by omega))
      have e3 : (n : Int) * 32 = ((32 * n : Nat) : Int) := by omega
      go_enter Tryd.func19, Tryd.ntmps19
      go_wp2_with fail
      refine HA.out.mono ?_
      rintro e w' ⟨rfl, rfl⟩
      go_wp2_with fail
      go_ret
      exact ⟨rfl, rfl⟩

theorem addCount200_any (w : World) (acc n : Nat) (ha : acc ≤ 1048577) (hn : n ≤ 9223372036854775807) :
    Calls Tryd.prog 19 #[.int .i64 (acc : Int), .int .i64 (n : Int), .int .i64 200] w fun e w' => e = .returned (.int .i64 ((sat (acc + 200 * n) : Nat) : Int)) ∧ w = w' := by
  by_cases h1 : 1048576 < acc
  · have e1 : sat (acc + 200 * n) = 1048577 := by unfold sat; rw [if_neg (by omega)]
    rw [e1]
    clear e1
    go_enter Tryd.func19, Tryd.ntmps19
    go_wp2_with fail
    go_ret
    exact ⟨rfl, rfl⟩
  · by_cases h2 : 5242 < n
    · have e1 : sat (acc + 200 * n) = 1048577 := by unfold sat; rw [if_neg (by omega)]
      rw [e1]
      clear e1
      go_enter Tryd.func19, Tryd.ntmps19
      go_wp2_with fail
      go_ret
      exact ⟨rfl, rfl⟩
    · have HA := Hid.mk (addLen_any w acc (200 * n) ha (by omega))
      have e3 : (n : Int) * 200 = ((200 * n : Nat) : Int) := by omega
      go_enter Tryd.func19, Tryd.ntmps19
      go_wp2_with fail
      refine HA.out.mono ?_
      rintro e w' ⟨rfl, rfl⟩
      go_wp2_with fail
      go_ret
      exact ⟨rfl, rfl⟩

theorem boolByte_any (w : World) (b : Bool) : Calls Tryd.prog 15 #[.bool b] w fun e w' => e = .returned (bv (seqByte b)) ∧ w = w' := by
  cases b
  · go_enter Tryd.func15, Tryd.ntmps15
    go_wp2
    go_ret
    exact ⟨rfl, rfl⟩
  · go_enter Tryd.func15, Tryd.ntmps15
    go_wp2
    go_ret
    exact ⟨rfl, rfl⟩

theorem eql23 (w : World) (a : Option Addr) (l c : Nat) : (binOp .eql 23 (.slice a l c) (.slice none 0 0)).run Tryd.prog w = .ok (.bool a.isNone) w := run_eql_slice_nil w 23 5 a l c Tryd.underlying23

/-- Two rows of the same bytes. -/
theorem sameBytes_any (w : World) (x y : Addr) (c c' : Nat) (bs : List UInt8) (hl : bs.length ≤ 9223372036854775806) (hx : ∀ i, i < bs.length → w.cell? (x.add i) = some (bv (bs.getD i 0))) (hy : ∀ i, i < bs.length → w.cell? (y.add i) = some (bv (bs.getD i 0))) :
    Calls Tryd.prog 34 #[.slice (some x) bs.length c, .slice (some y) bs.length c'] w fun e w' => e = .returned (.bool true) ∧ ∃ n, w' = w.drewN n := by
  have HX := Hid.mk hx
  have HY := Hid.mk hy
  clear hx hy
  go_enter Tryd.func34, Tryd.ntmps34
  go_wp2
  go_loopw [5] (fun t wr => ∃ k n : Nat, k ≤ bs.length ∧ t = .int .i64 k ∧ wr = w.drewN n) (fun t _ => bs.length - (intOf t).toNat)
  case atStart => exact ⟨0, 0, Nat.zero_le _, rfl, rfl⟩
  case round =>
    obtain ⟨k, n, hk, rfl, rfl⟩ := hrel
    by_cases hlt : k < bs.length
    · have hlt' : (k : Int) < (bs.length : Int) := by omega
      obtain ⟨z, hz⟩ : ∃ z, z = ((bs.getD k 0).toNat : Int) := ⟨_, rfl⟩
      have cx := HX.out k hlt
      have cy := HY.out k hlt
      unfold bv at cx cy
      rw [← hz] at cx cy
      clear hz
      go_wp2_with fail
      go_quiet (fail)
      go_wp2
      exact ⟨⟨k + 1, _, by omega, by go_num, rfl⟩, by simp [intOf]; omega⟩
    · go_wp2
      go_ret
      exact ⟨rfl, n, rfl⟩

theorem sameBytes_nil (w : World) : Calls Tryd.prog 34 #[.slice none 0 0, .slice none 0 0] w fun e w' => e = .returned (.bool true) ∧ ∃ n, w' = w.drewN n := by
  go_enter Tryd.func34, Tryd.ntmps34
  go_wp2
  go_loop [5] (fun t => t = .int .i64 0) (fun t => 0)
  case atStart => rfl
  case round =>
    subst hrel
    go_wp2
    go_ret
    exact ⟨rfl, 0, rfl⟩

/-- What the decoder gives back, against what lies in the change. -/
theorem sameBuffer_any (w : World) (v v' : Value) (o : Option (List UInt8)) (hl : wBuf o ≤ 1048576) (h : BytesIn w v o) (h' : BytesIn w v' o) :
    Calls Tryd.prog 25 #[v, v'] w fun e w' => e = .returned (.bool true) ∧ ∃ n, w' = w.drewN n := by
  have hq := eql23
  rcases h with ⟨rfl, rfl⟩ | ⟨x, c, bs, rfl, rfl, hx⟩
  · rcases h' with ⟨rfl, _⟩ | ⟨x, c, bs, _, e, _⟩
    · go_enter Tryd.func25, Tryd.ntmps25
      go_wp2_with fail
      refine (sameBytes_nil _).mono ?_
      rintro e w' ⟨rfl, n, rfl⟩
      go_wp2_with fail
      go_ret
      exact ⟨rfl, n, rfl⟩
    · cases e
  · rcases h' with ⟨_, e⟩ | ⟨y, c', bs', rfl, e, hy⟩
    · cases e
    · cases e
      have HS := Hid.mk (sameBytes_any w x y c c' bs (by have : bs.length ≤ 1048576 := hl; omega) hx hy)
      clear hx hy
      go_enter Tryd.func25, Tryd.ntmps25
      go_wp2_with fail
      refine HS.out.mono ?_
      rintro e w' ⟨rfl, n, rfl⟩
      go_wp2_with fail
      go_ret
      exact ⟨rfl, n, rfl⟩

end Go.Proofs.Qxb6609425aDoor
