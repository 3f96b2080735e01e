/-
  Seat Qxb6612991a: the law FnColorTableIndexStableAsItGrows: the walk.
-/
import Derived.Test.Qxb6612991aFirst
namespace Go.Proofs.Qxb6612991a
open Go.RowKit
set_option linter.unusedVariables false

theorem bytes11_any (a0 : Option Addr) (l0 c0 : Nat) (w : World) (h0 : l0 ≤ maxLen) :
    Calls Try.prog 11 #[.slice a0 l0 c0] w fun e w' => (e = .returned (.bool true) ∨ e = .returned (.bool false)) ∧ w = w' := by
  unfold maxLen at h0
  by_cases g0 : 1048576 < l0
  · go_enter Try.func11, Try.ntmps11
    go_wp2
    go_ret
    exact ⟨.inr rfl, rfl⟩
  · go_enter Try.func11, Try.ntmps11
    go_wp2
    go_ret
    exact ⟨.inl rfl, rfl⟩

theorem St.cell {w w' : World} {tb g n cap : Nat} {cols : List Int} (S : St w w' tb (.slice (some ⟨g, 0, none⟩) n cap) cols) {j : Nat} (hj : j < cols.length) : w'.cell? ⟨g, j, none⟩ = some (.int .u64 (cols.getD j 0)) := by
  obtain ⟨vc, sl, h1, h2, h3, h4, h5, h6, h7⟩ := S
  rcases h3.row with ⟨e, _⟩ | ⟨g', cap', e, h⟩
  · cases e
  · cases e
    exact h j hj

set_option maxRecDepth 100000 in
set_option maxHeartbeats 3200000 in
theorem walk4_main (a0 : Option Addr) (l0 c0 : Nat) (z0 : Nat → Int) (w : World) (h0 : l0 ≤ 4096) (C0 : Came w a0 l0 z0) :
    Calls Try.prog 4 #[.slice a0 l0 c0] w fun e w' => e = .returned (.bool true) ∧ Below w.heap.size w w' := by
  have hm0 : l0 ≤ maxLen := by unfold maxLen; omega
  have HC0 := Hid.mk C0
  clear C0
  go_enter Try.func4, Try.ntmps4
  go_wp2_with fail
  refine (bytes11_any a0 l0 c0 _ hm0).mono ?_
  rintro e w' ⟨rfl | rfl, rfl⟩
  rotate_left
  · go_wp2_with fail
    go_ret
    exact ⟨rfl, Below.refl _ _⟩
  go_wp2_with fail
  refine (newTable_any _).mono ?_
  rintro e w' ⟨rfl, o, hT, rfl⟩
  have HS : Hid (St w (w.alloc o) w.heap.size (.slice none 0 0) []) := St.start hT
  clear hT
  go_wp2_with fail
  generalize w.alloc o = W0 at HS ⊢
  obtain ⟨tb, htb⟩ : ∃ tb, tb = w.heap.size := ⟨_, rfl⟩
  have HS' : Hid (St w W0 tb (.slice none 0 0) []) := by rw [htb]; exact HS
  rw [← htb]
  clear HS htb
  go_loopw [4, 5] (fun vs i wr => ∃ (k : Nat) (a : Option Addr) (cap : Nat) (cols : List Int), k ≤ l0 ∧ i = .int .i64 k ∧ vs = .slice a cols.length cap ∧ Hid (St w wr tb (.slice a cols.length cap) cols)) (fun _ i _ => l0 - (intOf i).toNat)
  case atStart => exact ⟨0, none, 0, [], Nat.zero_le _, rfl, rfl, HS'⟩
  case round =>
    clear HS'
    obtain ⟨k, a, cap, cols, hk, rfl, rfl, HS⟩ := hrel
    have hcl := HS.out.len
    by_cases hlt : k < l0
    · rcases HC0.out with hz | ⟨b, off, rfl, hb, hc⟩
      · omega
      have hcell : wr.cell? ⟨b, off + k, none⟩ = some (.int .u64 (z0 k)) := (HS.out.below.cell (p := ⟨b, off + k, none⟩) hb).trans (hc k hlt)
      obtain ⟨p, hp⟩ : ∃ p, p = z0 k := ⟨_, rfl⟩
      rw [← hp] at hcell
      clear hp hc HC0
      by_cases hfull : cols.length < 256
      · by_cases hin : ∃ i, i < cols.length ∧ cols.getD i 0 = p
        · obtain ⟨i, hi, hip⟩ := hin
          have HIP := Hid.mk hip
          clear hip
          go_wp2_with (go_at_call 10; refine (HS.out.agrees p).mono ?_; rintro e w1 ⟨rfl, S1⟩)
          refine (S1.first_hit p i hi HIP.out).mono ?_
          rintro e w' ⟨rfl, rfl⟩
          go_wp2_with fail
          exact ⟨⟨k + 1, a, cap, cols, by omega, by go_num, rfl, S1⟩, by simp [intOf]; omega⟩
        · have HIN : Hid (∀ i, i < cols.length → cols.getD i 0 ≠ p) := fun i hi e => hin ⟨i, hi, e⟩
          clear hin
          go_wp2_with (go_at_call 10; refine (HS.out.agrees p).mono ?_; rintro e w1 ⟨rfl, S1⟩)
          have HS1 := Hid.mk S1
          clear S1
          refine (HS1.out.first_miss p HIN.out).mono ?_
          rintro e w' ⟨rfl, rfl⟩
          go_wp2_with fail
          refine (HS1.out.slot p).mono ?_
          rintro e w2 ⟨r, rfl, F⟩
          have HF := Hid.mk F
          clear F
          go_wp2_with fail
          refine (HF.out.place hfull HIN.out).mono ?_
          rintro e w3 ⟨rfl, Hf⟩
          have HH := Hid.mk Hf
          have hbase : w.heap.size ≤ w3.heap.size + 1 := by
            obtain ⟨vc, sl, q1, q2, q3, q4, q5, q6, q7⟩ := Hf
            have := q7.size
            omega
          have hown : Hid (Own w3 w.heap.size 26 (.slice a cols.length cap) cols) := by
            obtain ⟨vc, sl, q1, q2, q3, q4, q5, q6, q7⟩ := Hf
            exact q3
          clear Hf
          go_wp2_with (at_builtin; refine wpList_append_one _ rfl _ _ 22 rfl w.heap.size 26 Try.underlying22 info26 _ cols.length (nums cols) rfl (hown.out.alloc _) ⟨w3.heap.size, 0, none⟩ 1 p rfl (by simp) (by omega) (by simp; omega) ?_; intro g cap' w4 hown4 hg4)
          have HS4 : Hid (St w w4 tb (.slice (some ⟨g, 0, none⟩) (cols.length + 1) cap') (cols ++ [p])) := HH.out.done hown4 hg4
          clear hown4 hg4 HH hown HF HS1 HIN HS
          go_loopw [7] (fun i wr => ∃ j : Nat, j ≤ cols.length + 1 ∧ i = .int .i64 j ∧ Hid (St w wr tb (.slice (some ⟨g, 0, none⟩) (cols.length + 1) cap') (cols ++ [p]))) (fun i _ => cols.length + 1 - (intOf i).toNat)
          case atStart => exact ⟨0, Nat.zero_le _, rfl, HS4⟩
          case round =>
            clear HS4
            obtain ⟨j, hj, rfl, HS⟩ := hrel
            by_cases hjt : j < cols.length + 1
            · have gj := HS.out.cell (j := j) (by simp; omega)
              obtain ⟨y, hy⟩ : ∃ y, y = (cols ++ [p]).getD j 0 := ⟨_, rfl⟩
              rw [← hy] at gj
              clear hy
              go_wp2_with (go_at_call 10; refine (HS.out.agrees y).mono ?_; rintro e w5 ⟨rfl, S5⟩)
              exact ⟨⟨j + 1, by omega, by go_num, S5⟩, by simp [intOf]; omega⟩
            · go_wp2_with fail
              refine ⟨⟨k + 1, some ⟨g, 0, none⟩, cap', cols ++ [p], by omega, by go_num, by simp, ?_⟩, by simp [intOf]; omega⟩
              have := HS.out
              simpa [Hid] using this
      · go_wp2_with (go_at_call 10; refine (HS.out.agrees p).mono ?_; rintro e w1 ⟨rfl, S1⟩)
        exact ⟨⟨k + 1, a, cap, cols, by omega, by go_num, rfl, S1⟩, by simp [intOf]; omega⟩
    · go_wp2_with fail
      go_ret
      exact ⟨rfl, HS.out.below⟩

set_option maxRecDepth 100000 in
theorem walk4_far (a0 : Option Addr) (l0 c0 : Nat) (w : World) (hm0 : l0 ≤ maxLen) (h0 : 4096 < l0) :
    Calls Try.prog 4 #[.slice a0 l0 c0] w fun e w' => e = .returned (.bool true) ∧ Below w.heap.size w w' := by
  go_enter Try.func4, Try.ntmps4
  go_wp2_with fail
  refine (bytes11_any a0 l0 c0 _ hm0).mono ?_
  rintro e w' ⟨rfl | rfl, rfl⟩
  all_goals
    go_wp2_with fail
    go_ret
    exact ⟨rfl, Below.refl _ _⟩

theorem walk4 (a0 : Option Addr) (l0 c0 : Nat) (z0 : Nat → Int) (w : World) (hm0 : l0 ≤ maxLen) (C0 : Came w a0 l0 z0) :
    Calls Try.prog 4 #[.slice a0 l0 c0] w fun e w' => e = .returned (.bool true) ∧ Below w.heap.size w w' := by
  by_cases h : 4096 < l0
  · exact walk4_far a0 l0 c0 w hm0 h
  · exact walk4_main a0 l0 c0 z0 w (by omega) C0

end Go.Proofs.Qxb6612991a
