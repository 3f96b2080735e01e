/-
  Seat Qxb6612991a: the search for a slot.
-/
import Derived.Test.Qxb6612991aTable
import Derived.BigQuiet
import Derived.Deep.QuietTactic
import Derived.Deep.RegionWith
namespace Go.Proofs.Qxb6612991a
open Go.RowKit
set_option linter.unusedVariables false

theorem Hid.mk {p : Prop} (h : p) : Hid p := h

def TabIs (w : World) (tb : Nat) (vc : Value) (sl : Nat → Nat) : Prop := ∃ o, w.heap[tb]? = some o ∧ TabObj o vc sl

theorem TabIs.c0 {w : World} {tb : Nat} {vc : Value} {sl : Nat → Nat} (T : TabIs w tb vc sl) : w.cell? ⟨tb, 0, none⟩ = some vc := by
  obtain ⟨o, ho, c, rfl, hs, h0, hc⟩ := T
  simp [World.cell?, ho, h0]
theorem TabIs.cs {w : World} {tb : Nat} {vc : Value} {sl : Nat → Nat} (T : TabIs w tb vc sl) {s : Nat} (h : s < 1024) : w.cell? ⟨tb, 1 + s, none⟩ = some (.int .u16 (sl s : Int)) := by
  obtain ⟨o, ho, c, rfl, hs, h0, hc⟩ := T
  rw [Nat.add_comm]
  simp [World.cell?, ho, hc s h]
theorem TabIs.fz {w : World} {tb : Nat} {vc : Value} {sl : Nat → Nat} (T : TabIs w tb vc sl) (o : Nat) : w.frozen? ⟨tb, o, none⟩ = false := by
  obtain ⟨o, ho, c, rfl, hs, h0, hc⟩ := T
  simp [World.frozen?, ho]

/-- A slice of 64-bit numbers of the call's own: v reads as xs. -/
def RowIs (w : World) (v : Value) (xs : List Int) : Prop :=
  (v = .slice none 0 0 ∧ xs = []) ∨ ∃ g cap, v = .slice (some ⟨g, 0, none⟩) xs.length cap ∧ ∀ i, i < xs.length → w.cell? ⟨g, i, none⟩ = some (.int .u64 (xs.getD i 0))

/-- The hash of p: the top ten bits of its product. -/
def hash (p : Int) : Nat := (wrap64 (IntKind.u64.wrap (p * 11400714819323198485) / 18014398509481984)).toNat

theorem u64_wrap_bd (x : Int) : 0 ≤ IntKind.u64.wrap x ∧ IntKind.u64.wrap x < 18446744073709551616 := by
  have e : IntKind.u64.wrap x = x % 18446744073709551616 := by simp [IntKind.wrap, IntKind.bits, IntKind.signed]
  rw [e]
  omega
theorem hash_eq (p : Int) : wrap64 (IntKind.u64.wrap (p * 11400714819323198485) / 18014398509481984) = (hash p : Int) ∧ hash p < 1024 := by
  obtain ⟨h1, h2⟩ := u64_wrap_bd (p * 11400714819323198485)
  unfold hash
  generalize IntKind.u64.wrap (p * 11400714819323198485) = y at h1 h2 ⊢
  unfold wrap64
  omega

set_option maxRecDepth 100000 in
set_option maxHeartbeats 800000 in
theorem slot_any {w : World} {tb : Nat} {vc : Value} {sl : Nat → Nat} {cols : List Int} (TI : TabIs w tb vc sl) (R : RowIs w vc cols) (T : Tab hash cols sl) (hl : cols.length ≤ 256) (p : Int) :
    Calls Try.prog 12 #[.pointer (some ⟨tb, 0, none⟩), .int .u64 p] w fun e w' => ∃ r : Nat, e = .returned (.int .i64 (r : Int)) ∧ Ends cols sl p (hash p) r ∧ ∃ n, w' = w.drewN n := by
  obtain ⟨f, hf, hf0⟩ := T.free (by omega)
  have HF0 := Hid.mk hf0
  have HT := Hid.mk T
  have hle := T.le
  clear hf0 T
  have hh := (hash_eq p).2
  have c0 := TI.c0
  go_enter Try.func12, Try.ntmps12
  go_wp2
  rw [(hash_eq p).1]
  go_loopw [5] (fun i wr => ∃ k n : Nat, i = .int .i64 (((hash p + k) % 1024 : Nat) : Int) ∧ Hid (Probed cols sl p (hash p) k) ∧ wr = w.drewN n) (fun i _ => dist f (intOf i).toNat)
  case atStart => exact ⟨0, 0, by rw [Nat.add_zero, Nat.mod_eq_of_lt hh], Probed.zero _ _ _ _, rfl⟩
  case round =>
    obtain ⟨k, n, rfl, HP, rfl⟩ := hrel
    obtain ⟨s, hs⟩ : ∃ s, s = (hash p + k) % 1024 := ⟨_, rfl⟩
    have hs1 : s < 1024 := by rw [hs]; exact Nat.mod_lt _ (by omega)
    rw [← hs]
    have HS := Hid.mk hs
    clear hs
    have cs := TI.cs hs1
    have hsl := hle s hs1
    by_cases hz : sl s = 0
    · have hd : (((sl s : Nat) : Int) != 0) = false := by simp [hz]
      have HZ := Hid.mk hz
      clear hz
      go_wp2_with fail
      go_quiet (fail)
      go_wp2
      go_ret
      exact ⟨s, rfl, ⟨k, HS.out, HP.out, .inl HZ.out⟩, _, World.drewN_drewN _ _ _⟩
    · obtain ⟨j, hj⟩ : ∃ j, sl s = j + 1 := ⟨sl s - 1, by omega⟩
      have hjl : j < cols.length := by omega
      have HJ := Hid.mk hj
      rw [hj] at cs
      have cs' : w.cell? ⟨tb, 1 + s, none⟩ = some (.int .u16 ((j : Int) + 1)) := by rw [cs]; rfl
      clear cs hz hj hsl hle
      rcases R with ⟨rfl, rfl⟩ | ⟨g, cap, rfl, hg⟩
      · simp at hjl
      have gj := hg j hjl
      have hd : (((j : Int) + 1) != 0) = true := by rw [bne_iff_ne]; omega
      have hj16 : (j : Int) < 256 := by omega
      have hjl' : (j : Int) < (cols.length : Int) := by omega
      by_cases hp : cols.getD j 0 = p
      · rw [hp] at gj
        have HPP := Hid.mk hp
        clear hp hg
        go_wp2_with fail
        go_quiet (fail)
        go_wp2
        go_ret
        exact ⟨s, rfl, ⟨k, HS.out, HP.out, .inr (by rw [HJ.out]; exact HPP.out)⟩, _, World.drewN_drewN _ _ _⟩
      · obtain ⟨y, hy⟩ : ∃ y, y = cols.getD j 0 := ⟨_, rfl⟩
        rw [← hy] at gj hp
        have hpb : (y != p) = true := by rw [bne_iff_ne]; exact hp
        have HY := Hid.mk hy
        clear hy hg
        have HPP := Hid.mk hp
        clear hp
        go_wp2_with fail
        go_quiet (fail)
        go_wp2
        have e1 : ((s : Int) + 1) % 1024 = (((hash p + (k + 1)) % 1024 : Nat) : Int) := by
          have := HS.out
          omega
        have e2 : (((s : Int) + 1) % 1024).toNat = (s + 1) % 1024 := by omega
        have hsf : s ≠ f := fun e => by
          have h1 := HF0.out
          have h2 := HJ.out
          rw [← e, h2] at h1
          omega
        have HS' := HS.out
        have HP' : Probed cols sl p (hash p) (k + 1) := HP.out.next (by rw [← HS', HJ.out]; omega) (by rw [← HS', HJ.out, Nat.add_sub_cancel, ← HY.out]; exact HPP.out)
        refine ⟨⟨k + 1, n + nq, by rw [e1], HP', rfl⟩, ?_⟩
        simp only [intOf, e2, Int.toNat_natCast]
        exact dist_next hf hs1 hsf

theorem TabIs.drew {w : World} {tb : Nat} {vc : Value} {sl : Nat → Nat} (T : TabIs w tb vc sl) : TabIs w.drew tb vc sl := T
theorem TabIs.drewN {w : World} {tb : Nat} {vc : Value} {sl : Nat → Nat} (T : TabIs w tb vc sl) (n : Nat) : TabIs (w.drewN n) tb vc sl := T
theorem RowIs.drew {w : World} {v : Value} {xs : List Int} (R : RowIs w v xs) : RowIs w.drew v xs := R
theorem RowIs.drewN {w : World} {v : Value} {xs : List Int} (R : RowIs w v xs) (n : Nat) : RowIs (w.drewN n) v xs := R

theorem zzslot_any {w : World} {tb : Nat} {vc : Value} {sl : Nat → Nat} {cols : List Int} (TI : TabIs w tb vc sl) (R : RowIs w vc cols) (T : Tab hash cols sl) (hl : cols.length ≤ 256) (p : Int) :
    Calls Try.prog 9 #[.pointer (some ⟨tb, 0, none⟩), .int .u64 p] w fun e w' => ∃ r : Nat, e = .returned (.int .i64 (r : Int)) ∧ Ends cols sl p (hash p) r ∧ ∃ n, w' = w.drewN n := by
  have HT := Hid.mk T
  clear T
  go_enter Try.func9, Try.ntmps9
  go_wp2_with fail
  refine (slot_any TI R HT.out hl p).mono ?_
  rintro e w' ⟨r, rfl, E, n, rfl⟩
  have HE := Hid.mk E
  clear E
  go_wp2
  go_ret
  exact ⟨r, rfl, HE.out, n, rfl⟩

/-- What 'index' answers: the number in the slot where the search ends. -/
theorem index_any {w : World} {tb : Nat} {vc : Value} {sl : Nat → Nat} {cols : List Int} (TI : TabIs w tb vc sl) (R : RowIs w vc cols) (T : Tab hash cols sl) (hl : cols.length ≤ 256) (p : Int) :
    Calls Try.prog 14 #[.pointer (some ⟨tb, 0, none⟩), .int .u64 p] w fun e w' => ∃ r : Nat, Ends cols sl p (hash p) r ∧ e = .returned (.tuple #[.int .i64 ((sl r : Int) - 1), .bool ((sl r : Int) != 0)]) ∧ ∃ n, w' = w.drewN n := by
  have HT := Hid.mk T
  have HTI := Hid.mk TI
  clear T TI
  go_enter Try.func14, Try.ntmps14
  go_wp2_with fail
  go_region_with (go_at_call 12; refine (slot_any HTI.out.drew R.drew HT.out hl p).mono ?_; rintro e w' ⟨r, rfl, E, n, rfl⟩; have cs := HTI.out.cs E.lt; have hr : (r : Int) < 1024 := (by have := E.lt; omega); have hb : (sl r : Int) ≤ 256 := (by have := HT.out.le r E.lt; omega))
  have HE := Hid.mk E
  clear E
  go_wp2
  go_ret2
  exact ⟨r, HE.out, rfl, 1 + n, by simp [World.drewN]⟩

theorem zzindex_any {w : World} {tb : Nat} {vc : Value} {sl : Nat → Nat} {cols : List Int} (TI : TabIs w tb vc sl) (R : RowIs w vc cols) (T : Tab hash cols sl) (hl : cols.length ≤ 256) (p : Int) :
    Calls Try.prog 13 #[.pointer (some ⟨tb, 0, none⟩), .int .u64 p] w fun e w' => ∃ r : Nat, Ends cols sl p (hash p) r ∧ e = .returned (.tuple #[.int .i64 ((sl r : Int) - 1), .bool ((sl r : Int) != 0)]) ∧ ∃ n, w' = w.drewN n := by
  have HT := Hid.mk T
  clear T
  go_enter Try.func13, Try.ntmps13
  go_wp2_with fail
  refine (index_any TI R HT.out hl p).mono ?_
  rintro e w' ⟨r, E, rfl, n, rfl⟩
  have HE := Hid.mk E
  clear E
  go_wp2
  go_ret2
  exact ⟨r, HE.out, rfl, n, rfl⟩

set_option maxHeartbeats 400000 in
theorem first_hit {w : World} {v : Value} {xs : List Int} (R : RowIs w v xs) (hl : xs.length ≤ 65536) (p : Int) (i : Nat) (hi : i < xs.length) (hp : xs.getD i 0 = p) (hf : ∀ j, j < i → xs.getD j 0 ≠ p) :
    Calls Try.prog 7 #[v, .int .u64 p] w fun e w' => e = .returned (.int .i64 (i : Int)) ∧ w = w' := by
  rcases R with ⟨rfl, rfl⟩ | ⟨g, cap, rfl, hg⟩
  · simp at hi
  have HP := Hid.mk hp
  have HG := Hid.mk hg
  have HFF := Hid.mk hf
  clear hp hg hf
  go_enter Try.func7, Try.ntmps7
  go_wp2
  go_loop [5] (fun t => ∃ k : Nat, k ≤ i ∧ t = .int .i64 k) (fun t => i - (intOf t).toNat)
  case atStart => exact ⟨0, Nat.zero_le _, rfl⟩
  case round =>
    obtain ⟨k, hk, rfl⟩ := hrel
    have gk := HG.out k (by omega)
    have hkl : k < xs.length := by omega
    by_cases e : k = i
    · subst e
      rw [HP.out] at gk
      go_wp2
      go_ret
      exact ⟨rfl, rfl⟩
    · obtain ⟨y, hy⟩ : ∃ y, y = xs.getD k 0 := ⟨_, rfl⟩
      have hne := HFF.out k (by omega)
      rw [← hy] at gk hne
      have hb : (y == p) = false := by rw [beq_eq_false_iff_ne]; exact hne
      clear hy hne
      go_wp2
      go_round
      case rel => exact ⟨k + 1, by omega, by go_num⟩
      case measure => simp [intOf]; omega

set_option maxHeartbeats 400000 in
theorem first_miss {w : World} {v : Value} {xs : List Int} (R : RowIs w v xs) (hl : xs.length ≤ 65536) (p : Int) (hf : ∀ j, j < xs.length → xs.getD j 0 ≠ p) :
    Calls Try.prog 7 #[v, .int .u64 p] w fun e w' => e = .returned (.int .i64 (-1)) ∧ w = w' := by
  rcases R with ⟨rfl, rfl⟩ | ⟨g, cap, rfl, hg⟩
  · go_enter Try.func7, Try.ntmps7
    go_wp2
    go_loop [5] (fun t => t = .int .i64 0) (fun t => 0)
    case atStart => rfl
    case round =>
      subst hrel
      go_wp2
      go_ret
      exact ⟨rfl, rfl⟩
  have HG := Hid.mk hg
  have HFF := Hid.mk hf
  clear hg hf
  go_enter Try.func7, Try.ntmps7
  go_wp2
  go_loop [5] (fun t => ∃ k : Nat, k ≤ xs.length ∧ t = .int .i64 k) (fun t => xs.length - (intOf t).toNat)
  case atStart => exact ⟨0, Nat.zero_le _, rfl⟩
  case round =>
    obtain ⟨k, hk, rfl⟩ := hrel
    by_cases hkl : k < xs.length
    · have gk := HG.out k hkl
      obtain ⟨y, hy⟩ : ∃ y, y = xs.getD k 0 := ⟨_, rfl⟩
      have hne := HFF.out k hkl
      rw [← hy] at gk hne
      have hb : (y == p) = false := by rw [beq_eq_false_iff_ne]; exact hne
      clear hy hne
      go_wp2
      go_round
      case rel => exact ⟨k + 1, by omega, by go_num⟩
      case measure => simp [intOf]; omega
    · go_wp2
      go_ret
      exact ⟨rfl, rfl⟩

theorem agrees_hit {w : World} {tb : Nat} {vc vs : Value} {sl : Nat → Nat} {cols : List Int} (TI : TabIs w tb vc sl) (R : RowIs w vc cols) (S : RowIs w vs cols) (T : Tab hash cols sl) (hl : cols.length ≤ 256) (p : Int) (i : Nat) (hi : i < cols.length) (hp : cols.getD i 0 = p) :
    Calls Try.prog 10 #[.pointer (some ⟨tb, 0, none⟩), vs, .int .u64 p] w fun e w' => e = .returned (.bool true) ∧ ∃ n, w' = w.drewN n := by
  have HT := Hid.mk T
  clear T
  have HP := Hid.mk hp
  clear hp
  go_enter Try.func10, Try.ntmps10
  go_wp2_with fail
  refine (zzindex_any TI R HT.out hl p).mono ?_
  rintro e w' ⟨r, E, rfl, n, rfl⟩
  have hr : sl r = i + 1 := HT.out.hit hi (by rw [HP.out]; exact E)
  rw [hr]
  have e1 : (((i + 1 : Nat) : Int) != 0) = true := by rw [bne_iff_ne]; omega
  have e2 : ((i + 1 : Nat) : Int) - 1 = (i : Int) := by omega
  rw [e1, e2]
  clear hr e1 e2 E
  go_wp2_with fail
  refine (first_hit (S.drewN n) (by omega) p i hi HP.out (fun j hj e => ?_)).mono ?_
  · have := HT.out.nodup j i (by omega) hi (by rw [e, HP.out])
    omega
  rintro e w' ⟨rfl, rfl⟩
  go_wp2
  go_ret
  exact ⟨rfl, n, rfl⟩

theorem agrees_miss {w : World} {tb : Nat} {vc vs : Value} {sl : Nat → Nat} {cols : List Int} (TI : TabIs w tb vc sl) (R : RowIs w vc cols) (S : RowIs w vs cols) (T : Tab hash cols sl) (hl : cols.length ≤ 256) (p : Int) (hp : ∀ i, i < cols.length → cols.getD i 0 ≠ p) :
    Calls Try.prog 10 #[.pointer (some ⟨tb, 0, none⟩), vs, .int .u64 p] w fun e w' => e = .returned (.bool true) ∧ ∃ n, w' = w.drewN n := by
  have HT := Hid.mk T
  clear T
  have HP := Hid.mk hp
  clear hp
  go_enter Try.func10, Try.ntmps10
  go_wp2_with fail
  refine (zzindex_any TI R HT.out hl p).mono ?_
  rintro e w' ⟨r, E, rfl, n, rfl⟩
  have hr : sl r = 0 := HT.out.miss HP.out E
  rw [hr]
  have e1 : (((0 : Nat) : Int) != 0) = false := by rfl
  have e2 : ((0 : Nat) : Int) - 1 = -1 := by omega
  rw [e1, e2]
  clear hr e1 e2 E
  go_wp2_with fail
  refine (first_miss (S.drewN n) (by omega) p HP.out).mono ?_
  rintro e w' ⟨rfl, rfl⟩
  go_wp2
  go_ret
  exact ⟨rfl, n, rfl⟩

/-- indexAgrees: true at every colour. -/
theorem agrees_any {w : World} {tb : Nat} {vc vs : Value} {sl : Nat → Nat} {cols : List Int} (TI : TabIs w tb vc sl) (R : RowIs w vc cols) (S : RowIs w vs cols) (T : Tab hash cols sl) (hl : cols.length ≤ 256) (p : Int) :
    Calls Try.prog 10 #[.pointer (some ⟨tb, 0, none⟩), vs, .int .u64 p] w fun e w' => e = .returned (.bool true) ∧ ∃ n, w' = w.drewN n := by
  by_cases h : ∃ i, i < cols.length ∧ cols.getD i 0 = p
  · obtain ⟨i, hi, hp⟩ := h
    exact agrees_hit TI R S T hl p i hi hp
  · exact agrees_miss TI R S T hl p (fun i hi e => h ⟨i, hi, e⟩)

end Go.Proofs.Qxb6612991a
