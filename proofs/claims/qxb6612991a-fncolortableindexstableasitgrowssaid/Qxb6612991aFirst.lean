/-
  Seat Qxb6612991a: the law FnColorTableIndexFirstSeen: the walk.
-/
import Derived.Test.Qxb6612991aState
namespace Go.Proofs.Qxb6612991a
open Go.RowKit
set_option linter.unusedVariables false

/-- A slice of 64-bit numbers that came in: empty, or it leads to old cells. -/
def Came (w : World) (a : Option Addr) (len : Nat) (z : Nat → Int) : Prop :=
  len = 0 ∨ ∃ b off, a = some ⟨b, off, none⟩ ∧ b < w.heap.size ∧ ∀ i, i < len → w.cell? ⟨b, off + i, none⟩ = some (.int .u64 (z i))

theorem bytes5_any (a0 a1 : Option Addr) (l0 c0 l1 c1 : Nat) (w : World) (h0 : l0 ≤ maxLen) (h1 : l1 ≤ maxLen) :
    Calls Try.prog 5 #[.slice a0 l0 c0, .slice a1 l1 c1] w fun e w' => (e = .returned (.bool true) ∨ e = .returned (.bool false)) ∧ w = w' := by
  unfold maxLen at h0 h1
  by_cases g0 : 1048576 < l0
  · go_enter Try.func5, Try.ntmps5
    go_wp2
    go_ret
    exact ⟨.inr rfl, rfl⟩
  · by_cases g1 : 1048576 < l1
    · go_enter Try.func5, Try.ntmps5
      go_wp2
      go_ret
      exact ⟨.inr rfl, rfl⟩
    · by_cases g2 : 1048576 < l0 + l1
      · go_enter Try.func5, Try.ntmps5
        go_wp2
        go_ret
        exact ⟨.inr rfl, rfl⟩
      · go_enter Try.func5, Try.ntmps5
        go_wp2
        go_ret
        exact ⟨.inl rfl, rfl⟩

set_option maxRecDepth 100000 in
set_option maxHeartbeats 3200000 in
theorem walk3_main (a0 a1 : Option Addr) (l0 c0 l1 c1 : Nat) (z0 z1 : Nat → Int) (w : World) (h0 : l0 ≤ 4096) (h1 : l1 ≤ 4096) (C0 : Came w a0 l0 z0) (C1 : Came w a1 l1 z1) :
    Calls Try.prog 3 #[.slice a0 l0 c0, .slice a1 l1 c1] w fun e w' => e = .returned (.bool true) ∧ Below w.heap.size w w' := by
  have hm0 : l0 ≤ maxLen := by unfold maxLen; omega
  have hm1 : l1 ≤ maxLen := by unfold maxLen; omega
  have HC0 := Hid.mk C0
  have HC1 := Hid.mk C1
  clear C0 C1
  go_enter Try.func3, Try.ntmps3
  go_wp2_with fail
  refine (bytes5_any a0 a1 l0 c0 l1 c1 _ hm0 hm1).mono ?_
  rintro e w' ⟨rfl | rfl, rfl⟩
  rotate_left
  · go_wp2_with fail
    go_ret
    exact ⟨rfl, Below.refl _ _⟩
  go_wp2_with fail
  refine (newTable_any _).mono ?_
  rintro e w' ⟨rfl, o, hT, rfl⟩
  have HS : Hid (St w (w.alloc o) w.heap.size (.slice none 0 0) []) := St.start hT
  clear hT
  go_wp2_with fail
  generalize w.alloc o = W0 at HS ⊢
  obtain ⟨tb, htb⟩ : ∃ tb, tb = w.heap.size := ⟨_, rfl⟩
  have HS' : Hid (St w W0 tb (.slice none 0 0) []) := by rw [htb]; exact HS
  rw [← htb]
  clear HS htb
  go_loopw [6, 7] (fun vs i wr => ∃ (k : Nat) (a : Option Addr) (cap : Nat) (cols : List Int), k ≤ l0 ∧ i = .int .i64 k ∧ vs = .slice a cols.length cap ∧ Hid (St w wr tb (.slice a cols.length cap) cols)) (fun _ i _ => l0 - (intOf i).toNat)
  case atStart => exact ⟨0, none, 0, [], Nat.zero_le _, rfl, rfl, HS'⟩
  case round =>
    clear HS'
    obtain ⟨k, a, cap, cols, hk, rfl, rfl, HS⟩ := hrel
    have hcl := HS.out.len
    by_cases hgo : k < l0 ∧ cols.length < 256
    · obtain ⟨hlt, hfull⟩ := hgo
      rcases HC0.out with hz | ⟨b, off, rfl, hb, hc⟩
      · omega
      have hcell : wr.cell? ⟨b, off + k, none⟩ = some (.int .u64 (z0 k)) := (HS.out.below.cell (p := ⟨b, off + k, none⟩) hb).trans (hc k hlt)
      obtain ⟨p, hp⟩ : ∃ p, p = z0 k := ⟨_, rfl⟩
      rw [← hp] at hcell
      clear hp hc HC0
      by_cases hin : ∃ i, i < cols.length ∧ cols.getD i 0 = p
      · obtain ⟨i, hi, hip⟩ := hin
        have HIP := Hid.mk hip
        clear hip
        go_wp2_with (go_at_call 7; refine (HS.out.first_hit p i hi HIP.out).mono ?_; rintro e w' ⟨rfl, rfl⟩)
        exact ⟨⟨k + 1, a, cap, cols, by omega, by go_num, rfl, HS⟩, by simp [intOf]; omega⟩
      · have HIN : Hid (∀ i, i < cols.length → cols.getD i 0 ≠ p) := fun i hi e => hin ⟨i, hi, e⟩
        clear hin
        go_wp2_with (go_at_call 7; refine (HS.out.first_miss p HIN.out).mono ?_; rintro e w' ⟨rfl, rfl⟩)
        refine (HS.out.slot p).mono ?_
        rintro e w2 ⟨r, rfl, F⟩
        have HF := Hid.mk F
        clear F
        go_wp2_with fail
        refine (HF.out.place hfull HIN.out).mono ?_
        rintro e w3 ⟨rfl, Hf⟩
        have HH := Hid.mk Hf
        have hsz3 := Nat.le_refl w3.heap.size
        have hbase : w.heap.size ≤ w3.heap.size + 1 := by
          obtain ⟨vc, sl, q1, q2, q3, q4, q5, q6, q7⟩ := Hf
          have := q7.size
          omega
        have hown : Hid (Own w3 w.heap.size 26 (.slice a cols.length cap) cols) := by
          obtain ⟨vc, sl, q1, q2, q3, q4, q5, q6, q7⟩ := Hf
          exact q3
        clear Hf hsz3
        go_wp2_with (at_builtin; refine wpList_append_one _ rfl _ _ 22 rfl w.heap.size 26 Try.underlying22 info26 _ cols.length (nums cols) rfl (hown.out.alloc _) ⟨w3.heap.size, 0, none⟩ 1 p rfl (by simp) (by omega) (by simp; omega) ?_; intro g cap' w4 hown4 hg4)
        refine ⟨⟨k + 1, some ⟨g, 0, none⟩, cap', cols ++ [p], by omega, by go_num, by simp, ?_⟩, by simp [intOf]; omega⟩
        have := HH.out.done hown4 hg4
        simpa [Hid] using this
    · by_cases hlt : k < l0
      all_goals
        go_wp2_with fail
        go_loopw [9] (fun i wr => ∃ j : Nat, j ≤ l0 ∧ i = .int .i64 j ∧ Hid (St w wr tb (.slice a cols.length cap) cols)) (fun i _ => l0 - (intOf i).toNat)
        case atStart => exact ⟨0, Nat.zero_le _, rfl, HS⟩
        case round =>
          clear HS
          obtain ⟨j, hj, rfl, HS⟩ := hrel
          by_cases hjt : j < l0
          · rcases HC0.out with hz | ⟨b, off, rfl, hb, hc⟩
            · omega
            have hcell : wr.cell? ⟨b, off + j, none⟩ = some (.int .u64 (z0 j)) := (HS.out.below.cell (p := ⟨b, off + j, none⟩) hb).trans (hc j hjt)
            obtain ⟨p, hp⟩ : ∃ p, p = z0 j := ⟨_, rfl⟩
            rw [← hp] at hcell
            clear hp hc HC0
            go_wp2_with (go_at_call 10; refine (HS.out.agrees p).mono ?_; rintro e w5 ⟨rfl, S5⟩)
            exact ⟨⟨j + 1, by omega, by go_num, S5⟩, by simp [intOf]; omega⟩
          · go_wp2_with fail
            go_loopw [10] (fun i wr => ∃ m : Nat, m ≤ l1 ∧ i = .int .i64 m ∧ Hid (St w wr tb (.slice a cols.length cap) cols)) (fun i _ => l1 - (intOf i).toNat)
            case atStart => exact ⟨0, Nat.zero_le _, rfl, HS⟩
            case round =>
              clear HS
              obtain ⟨m, hm, rfl, HS⟩ := hrel
              by_cases hmt : m < l1
              · rcases HC1.out with hz | ⟨b, off, rfl, hb, hc⟩
                · omega
                have hcell : wr.cell? ⟨b, off + m, none⟩ = some (.int .u64 (z1 m)) := (HS.out.below.cell (p := ⟨b, off + m, none⟩) hb).trans (hc m hmt)
                obtain ⟨p, hp⟩ : ∃ p, p = z1 m := ⟨_, rfl⟩
                rw [← hp] at hcell
                clear hp hc HC1
                go_wp2_with (go_at_call 10; refine (HS.out.agrees p).mono ?_; rintro e w5 ⟨rfl, S5⟩)
                exact ⟨⟨m + 1, by omega, by go_num, S5⟩, by simp [intOf]; omega⟩
              · go_wp2_with fail
                go_ret
                exact ⟨rfl, HS.out.below⟩

set_option maxRecDepth 100000 in
theorem walk3_far (a0 a1 : Option Addr) (l0 c0 l1 c1 : Nat) (w : World) (hm0 : l0 ≤ maxLen) (hm1 : l1 ≤ maxLen) (h : 4096 < l0 ∨ 4096 < l1) :
    Calls Try.prog 3 #[.slice a0 l0 c0, .slice a1 l1 c1] w fun e w' => e = .returned (.bool true) ∧ Below w.heap.size w w' := by
  by_cases h0 : 4096 < l0
  · go_enter Try.func3, Try.ntmps3
    go_wp2_with fail
    refine (bytes5_any a0 a1 l0 c0 l1 c1 _ hm0 hm1).mono ?_
    rintro e w' ⟨rfl | rfl, rfl⟩
    all_goals
      go_wp2_with fail
      go_ret
      exact ⟨rfl, Below.refl _ _⟩
  · have h1 : 4096 < l1 := by omega
    go_enter Try.func3, Try.ntmps3
    go_wp2_with fail
    refine (bytes5_any a0 a1 l0 c0 l1 c1 _ hm0 hm1).mono ?_
    rintro e w' ⟨rfl | rfl, rfl⟩
    all_goals
      go_wp2_with fail
      go_ret
      exact ⟨rfl, Below.refl _ _⟩

theorem walk3 (a0 a1 : Option Addr) (l0 c0 l1 c1 : Nat) (z0 z1 : Nat → Int) (w : World) (hm0 : l0 ≤ maxLen) (hm1 : l1 ≤ maxLen) (C0 : Came w a0 l0 z0) (C1 : Came w a1 l1 z1) :
    Calls Try.prog 3 #[.slice a0 l0 c0, .slice a1 l1 c1] w fun e w' => e = .returned (.bool true) ∧ Below w.heap.size w w' := by
  by_cases h : 4096 < l0 ∨ 4096 < l1
  · exact walk3_far a0 a1 l0 c0 l1 c1 w hm0 hm1 h
  · exact walk3_main a0 a1 l0 c0 l1 c1 z0 z1 w (by omega) (by omega) C0 C1

/-- From the row that the reader gives to 'Came'. -/
theorem came_of {w : World} {x : Addr} {len cap : Nat} {zs : List Int} (hl : len ≤ cap) (hz : zs.length = cap) (hc : ∀ i, i < zs.length → w.cell? (x.add i) = some (.int .u64 (zs.getD i 0))) : Came w (some x) len (fun i => zs.getD i 0) := by
  by_cases h0 : len = 0
  · exact .inl h0
  have hc0 := hc 0 (by omega)
  obtain ⟨b0, off, sp⟩ := x
  have hsp : sp = none := by
    cases sp with
    | none => rfl
    | some v =>
      exfalso
      simp only [World.cell?, Addr.add] at hc0
      split at hc0 <;> simp at hc0
  subst hsp
  refine .inr ⟨b0, off, rfl, World.block_lt_of_cell? _ _ hc0, fun i hi => ?_⟩
  have := hc i (by omega)
  rw [Addr.add_lit] at this
  exact this

end Go.Proofs.Qxb6612991a
