/-
  Seat Qxb6612991aDoorRR: the bytes that came in; FnNewColorReaderShapes: its walk.
-/
import Derived.Test.Qxb6612991aDoorRRFresh
namespace Go.Proofs.Qxb6612991aDoorRR
open Go.RowKit
set_option linter.unusedVariables false
set_option linter.unusedSimpArgs false

/-- A byte slice that came in. -/
def Came (w : World) (a : Option Addr) (len cap : Nat) (bs : List Int) : Prop :=
  (a = none ∧ len = 0 ∧ cap = 0 ∧ bs = []) ∨ ∃ x, a = some x ∧ bs.length = len ∧ ∀ i, i < len → w.cell? (x.add i) = some (.int .u8 (bs.getD i 0))

theorem Came.kept {w w' : World} {a : Option Addr} {len cap : Nat} {bs : List Int} (C : Came w a len cap bs) (hb : Below w.heap.size w w') : Came w' a len cap bs := by
  rcases C with h | ⟨x, h1, h2, h3⟩
  · exact .inl h
  · exact .inr ⟨x, h1, h2, fun i hi => (hb.cell (World.block_lt_of_cell? _ _ (h3 i hi))).trans (h3 i hi)⟩

theorem Came.len {w : World} {a : Option Addr} {len cap : Nat} {bs : List Int} (C : Came w a len cap bs) : bs.length = len := by
  rcases C with ⟨_, h, _, rfl⟩ | ⟨x, h1, h2, h3⟩
  · simp [h]
  · exact h2

theorem clone_came {w : World} {a : Option Addr} {len cap : Nat} {bs : List Int} (C : Came w a len cap bs) (h : len ≤ 4096) :
    Calls Tryd.prog 7 #[.slice a len cap] w fun e w' => ∃ pa, e = .returned (.slice pa bs.length bs.length) ∧ BytesAt w' pa bs ∧ Below w.heap.size w w' := by
  rcases C with ⟨rfl, rfl, rfl, rfl⟩ | ⟨x, rfl, h2, h3⟩
  · refine (clone_nil w).mono fun e w' ⟨he, hw⟩ => ?_
    subst he
    subst hw
    exact ⟨none, rfl, .inl ⟨rfl, rfl⟩, Below.refl _ _⟩
  · refine (clone_some w x len cap bs h h2 h3).mono fun e w' ⟨he, hw⟩ => ?_
    subst he
    subst hw
    exact ⟨_, by rw [h2], .inr ⟨_, rfl, heap_new _ _⟩, (Below.refl _ _).alloc (Nat.le_refl _) _⟩

theorem below_trans {a b c : World} (h : Below a.heap.size a b) (k : Below b.heap.size b c) : Below a.heap.size a c := h.trans (k.mono h.size)

theorem Fr.of {w0 w w' : World} {L R bb pb wd : Nat} {ht d ct : Int} {pa ta : Option Addr} {bs ts : List Int} {n : Nat} {env : Value}
    (M : Made w w' L R bb pb wd ht d ct (.slice pa bs.length bs.length) (.slice ta ts.length ts.length) n env (scaleOf d)) (E : Ents w w' ct bs ts pb env (bs.length / 3)) (hP : BytesAt w pa bs) (hT : BytesAt w ta ts) : Fr w' R bb pb wd ht d ct pa ta bs ts n env := by
  refine ⟨M.rd, M.buf, M.px, ?_, hP.kept M.below, hT.kept M.below⟩
  rcases E with h | ⟨h1, eb, h2, h3, _, _⟩
  · exact .inl h
  · exact .inr ⟨h1, eb, h2, h3⟩

theorem bytes5_any (wd ht d ct : Int) (a0 a1 : Option Addr) (l0 c0 l1 c1 : Nat) (w : World) (h0 : l0 ≤ maxLen) (h1 : l1 ≤ maxLen) :
    Calls Tryd.prog 5 #[.int .i64 wd, .int .i64 ht, .int .i64 d, .int .u8 ct, .slice a0 l0 c0, .slice a1 l1 c1] w fun e w' => (e = .returned (.bool true) ∨ e = .returned (.bool false)) ∧ w = w' := by
  unfold maxLen at h0 h1
  by_cases g0 : 1048576 < l0
  · go_enter Tryd.func5, Tryd.ntmps5
    go_wp2
    go_ret
    exact ⟨.inr rfl, rfl⟩
  · by_cases g1 : 1048576 < l1
    · go_enter Tryd.func5, Tryd.ntmps5
      go_wp2
      go_ret
      exact ⟨.inr rfl, rfl⟩
    · by_cases g2 : 1048576 < l0 + l1
      · go_enter Tryd.func5, Tryd.ntmps5
        go_wp2
        go_ret
        exact ⟨.inr rfl, rfl⟩
      · go_enter Tryd.func5, Tryd.ntmps5
        go_wp2
        go_ret
        exact ⟨.inl rfl, rfl⟩

theorem valid_pos {ct d ch : Int} (V : Valid ct d ch) : (ch == 0) = false := by
  rw [beq_eq_false_iff_ne]
  unfold Valid at V
  omega

set_option maxRecDepth 100000 in
set_option maxHeartbeats 1600000 in
theorem walk3_main (wd : Nat) (ht d ct : Int) (a0 a1 : Option Addr) (l0 c0 l1 c1 : Nat) (bs ts : List Int) (w : World) (hwd : wd ≤ 65536) (h0 : l0 ≤ 4096) (h1 : l1 ≤ 4096) (C0 : Came w a0 l0 c0 bs) (C1 : Came w a1 l1 c1 ts) (hbs : isByte bs) (hts : isByte ts) (C : ∀ ch, Valid ct d ch → ChIs w ct ch) :
    Calls Tryd.prog 3 #[.int .i64 (wd : Int), .int .i64 ht, .int .i64 d, .int .u8 ct, .slice a0 l0 c0, .slice a1 l1 c1] w fun e w' => e = .returned (.bool true) ∧ Below w.heap.size w w' := by
  have HC0 := Hid.mk C0
  have HC1 := Hid.mk C1
  have HC := Hid.mk C
  have HBS := Hid.mk (And.intro hbs hts)
  have HL : Hid (bs.length ≤ 4096 ∧ ts.length ≤ 4096) := ⟨by rw [C0.len]; exact h0, by rw [C1.len]; exact h1⟩
  clear C0 C1 C hbs hts
  go_enter Tryd.func3, Tryd.ntmps3
  go_wp2_with fail
  refine (bytes5_any _ _ _ _ a0 a1 l0 c0 l1 c1 _ (by unfold maxLen; omega) (by unfold maxLen; omega)).mono ?_
  rintro e w' ⟨rfl | rfl, rfl⟩
  · go_wp2_with fail
    refine (samples_any ct d _).mono ?_
    rintro e w' ⟨rfl | ⟨ch, rfl, hV⟩, rfl⟩
    · go_wp2_with fail
      go_ret
      exact ⟨rfl, Below.refl _ _⟩
    · have hc0 := valid_pos hV
      have HV := Hid.mk hV
      clear hV
      go_wp2_with fail
      refine (clone_came HC0.out h0).mono ?_
      rintro e w1 ⟨pa, rfl, hP, hb1⟩
      have HP := Hid.mk (And.intro hP hb1)
      clear hP hb1
      go_wp2_with fail
      refine (clone_came (HC1.out.kept HP.out.2) h1).mono ?_
      rintro e w2 ⟨ta, rfl, hT, hb2⟩
      have HT := Hid.mk (And.intro hT hb2)
      clear hT hb2
      go_wp2_with fail
      refine (zznew_any (HC.out ch HV.out) (below_trans HP.out.2 HT.out.2) wd ht d pa ta bs ts (HP.out.1.kept HT.out.2) HT.out.1 HL.out.1 HL.out.2 _ hwd (nums_of HV.out wd hwd).row (nums_of HV.out wd hwd).cap).mono ?_
      rintro e w3 ⟨R, rfl, L, bb, pb, env, M, E⟩
      have HM := Hid.mk (And.intro M E)
      clear M E
      go_wp2_with fail
      refine (fresh_any (Fr.of (w0 := w) HM.out.1 HM.out.2 (HP.out.1.kept HT.out.2) HT.out.1) (nums_of HV.out wd hwd) hwd HL.out.1 HL.out.2 HBS.out.1 HBS.out.2).mono ?_
      rintro e w4 ⟨rfl, k, rfl⟩
      go_wp2_with fail
      go_ret
      exact ⟨rfl, below_drewN (below_trans (below_trans HP.out.2 HT.out.2) HM.out.1.below) _⟩
  · go_wp2_with fail
    go_ret
    exact ⟨rfl, Below.refl _ _⟩

set_option maxRecDepth 100000 in
set_option maxHeartbeats 1600000 in
theorem walk3_early (wd ht d ct : Int) (a0 a1 : Option Addr) (l0 c0 l1 c1 : Nat) (w : World) (hm0 : l0 ≤ maxLen) (hm1 : l1 ≤ maxLen) (h : ¬ (l0 ≤ 4096 ∧ l1 ≤ 4096 ∧ 0 ≤ wd ∧ wd ≤ 65536)) :
    Calls Tryd.prog 3 #[.int .i64 wd, .int .i64 ht, .int .i64 d, .int .u8 ct, .slice a0 l0 c0, .slice a1 l1 c1] w fun e w' => e = .returned (.bool true) ∧ Below w.heap.size w w' := by
  have HM : Hid (l0 ≤ maxLen ∧ l1 ≤ maxLen) := ⟨hm0, hm1⟩
  have hz0 : l0 ≤ 9223372036854775807 := by unfold maxLen at hm0; omega
  have hz1 : l1 ≤ 9223372036854775807 := by unfold maxLen at hm1; omega
  clear hm0 hm1
  by_cases g0 : 4096 < l0
  · clear h
    go_enter Tryd.func3, Tryd.ntmps3
    go_wp2_with fail
    refine (bytes5_any _ _ _ _ a0 a1 l0 c0 l1 c1 _ HM.out.1 HM.out.2).mono ?_
    rintro e w' ⟨rfl | rfl, rfl⟩
    all_goals
      go_wp2_with fail
      go_ret
      exact ⟨rfl, Below.refl _ _⟩
  by_cases g1 : 4096 < l1
  · clear h
    go_enter Tryd.func3, Tryd.ntmps3
    go_wp2_with fail
    refine (bytes5_any _ _ _ _ a0 a1 l0 c0 l1 c1 _ HM.out.1 HM.out.2).mono ?_
    rintro e w' ⟨rfl | rfl, rfl⟩
    all_goals
      go_wp2_with fail
      go_ret
      exact ⟨rfl, Below.refl _ _⟩
  by_cases g2 : wd < 0
  · clear h
    go_enter Tryd.func3, Tryd.ntmps3
    go_wp2_with fail
    refine (bytes5_any _ _ _ _ a0 a1 l0 c0 l1 c1 _ HM.out.1 HM.out.2).mono ?_
    rintro e w' ⟨rfl | rfl, rfl⟩
    all_goals
      go_wp2_with fail
      go_ret
      exact ⟨rfl, Below.refl _ _⟩
  · have g3 : 65536 < wd := by omega
    clear h
    go_enter Tryd.func3, Tryd.ntmps3
    go_wp2_with fail
    refine (bytes5_any _ _ _ _ a0 a1 l0 c0 l1 c1 _ HM.out.1 HM.out.2).mono ?_
    rintro e w' ⟨rfl | rfl, rfl⟩
    all_goals
      go_wp2_with fail
      go_ret
      exact ⟨rfl, Below.refl _ _⟩

theorem walk3 (wd ht d ct : Int) (a0 a1 : Option Addr) (l0 c0 l1 c1 : Nat) (bs ts : List Int) (w : World) (hm0 : l0 ≤ maxLen) (hm1 : l1 ≤ maxLen) (C0 : Came w a0 l0 c0 bs) (C1 : Came w a1 l1 c1 ts) (hbs : isByte bs) (hts : isByte ts) (C : ∀ ch, Valid ct d ch → ChIs w ct ch) :
    Calls Tryd.prog 3 #[.int .i64 wd, .int .i64 ht, .int .i64 d, .int .u8 ct, .slice a0 l0 c0, .slice a1 l1 c1] w fun e w' => e = .returned (.bool true) ∧ Below w.heap.size w w' := by
  by_cases h : l0 ≤ 4096 ∧ l1 ≤ 4096 ∧ 0 ≤ wd ∧ wd ≤ 65536
  · obtain ⟨h0, h1, h2, h3⟩ := h
    obtain ⟨m, rfl⟩ := Int.eq_ofNat_of_zero_le h2
    exact walk3_main m ht d ct a0 a1 l0 c0 l1 c1 bs ts w (by omega) h0 h1 C0 C1 hbs hts C
  · exact walk3_early wd ht d ct a0 a1 l0 c0 l1 c1 w hm0 hm1 h

end Go.Proofs.Qxb6612991aDoorRR
