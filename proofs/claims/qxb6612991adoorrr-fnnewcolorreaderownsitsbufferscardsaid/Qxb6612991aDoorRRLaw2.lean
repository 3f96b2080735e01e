/-
  Seat Qxb6612991aDoorRR: FnNewColorReaderOwnsItsBuffers: its walk.
-/
import Derived.Test.Qxb6612991aDoorRRLaw1
namespace Go.Proofs.Qxb6612991aDoorRR
open Go.RowKit
set_option linter.unusedVariables false
set_option linter.unusedSimpArgs false

theorem bytes10_any (wd ht d ct : Int) (a0 a1 : Option Addr) (l0 c0 l1 c1 : Nat) (w : World) (h0 : l0 ≤ maxLen) (h1 : l1 ≤ maxLen) :
    Calls Tryd.prog 10 #[.int .i64 wd, .int .i64 ht, .int .i64 d, .int .u8 ct, .slice a0 l0 c0, .slice a1 l1 c1] w fun e w' => (e = .returned (.bool true) ∨ e = .returned (.bool false)) ∧ w = w' := by
  unfold maxLen at h0 h1
  by_cases g0 : 1048576 < l0
  · go_enter Tryd.func10, Tryd.ntmps10
    go_wp2
    go_ret
    exact ⟨.inr rfl, rfl⟩
  · by_cases g1 : 1048576 < l1
    · go_enter Tryd.func10, Tryd.ntmps10
      go_wp2
      go_ret
      exact ⟨.inr rfl, rfl⟩
    · by_cases g2 : 1048576 < l0 + l1
      · go_enter Tryd.func10, Tryd.ntmps10
        go_wp2
        go_ret
        exact ⟨.inr rfl, rfl⟩
      · go_enter Tryd.func10, Tryd.ntmps10
        go_wp2
        go_ret
        exact ⟨.inl rfl, rfl⟩

/-- A reader stays fresh where its blocks stay. -/
theorem Fr.kept {w w' : World} {R bb pb wd : Nat} {ht d ct : Int} {pa ta : Option Addr} {bs ts : List Int} {n : Nat} {env : Value} (F : Fr w R bb pb wd ht d ct pa ta bs ts n env) (hb : Below w.heap.size w w') : Fr w' R bb pb wd ht d ct pa ta bs ts n env := by
  have lt : ∀ {k o}, w.heap[k]? = some o → w'.heap[k]? = some o := fun {k o} h => (hb.block k (Array.getElem?_eq_some_iff.1 h).1).trans h
  refine ⟨lt F.rd, lt F.buf, lt F.px, ?_, F.pal.kept hb, F.tra.kept hb⟩
  rcases F.ents with h | ⟨h1, eb, h2, h3⟩
  · exact .inl h
  · exact .inr ⟨h1, eb, h2, lt h3⟩

/-- The block b is none of the reader's. -/
structure Apart (b R bb pb : Nat) (env : Value) (pa ta : Option Addr) : Prop where
  ar : b ≠ R
  ab : b ≠ bb
  ap : b ≠ pb
  ae : ∀ eb l, env = .slice (some ⟨eb, 0, none⟩) l l → b ≠ eb
  apa : ∀ g, pa = some ⟨g, 0, none⟩ → b ≠ g
  ata : ∀ g, ta = some ⟨g, 0, none⟩ → b ≠ g

theorem Fr.setCell {w : World} {R bb pb wd : Nat} {ht d ct : Int} {pa ta : Option Addr} {bs ts : List Int} {n : Nat} {env : Value} (F : Fr w R bb pb wd ht d ct pa ta bs ts n env) {b : Nat} (A : Apart b R bb pb env pa ta) (o : Nat) (v : Value) : Fr (w.setCell ⟨b, o, none⟩ v) R bb pb wd ht d ct pa ta bs ts n env := by
  have st : ∀ k, b ≠ k → (w.setCell ⟨b, o, none⟩ v).heap[k]? = w.heap[k]? := fun k h => Below.heap_setCell _ _ _ _ (fun e => h e.symm)
  refine ⟨(st _ A.ar).trans F.rd, (st _ A.ab).trans F.buf, (st _ A.ap).trans F.px, ?_, ?_, ?_⟩
  · rcases F.ents with h | ⟨h1, eb, h2, h3⟩
    · exact .inl h
    · exact .inr ⟨h1, eb, h2, (st _ (A.ae _ _ h2)).trans h3⟩
  · rcases F.pal with h | ⟨g, h1, h2⟩
    · exact .inl h
    · exact .inr ⟨g, h1, (st _ (A.apa _ h1)).trans h2⟩
  · rcases F.tra with h | ⟨g, h1, h2⟩
    · exact .inl h
    · exact .inr ⟨g, h1, (st _ (A.ata _ h1)).trans h2⟩

/-- What holds while the first reader's buffer is being filled. -/
structure Filling (w wr : World) (b n : Nat) (R bb pb wd : Nat) (ht d ct : Int) (pa ta : Option Addr) (bs ts : List Int) (env : Value) : Prop where
  fr : Fr wr R bb pb wd ht d ct pa ta bs ts n env
  below : Below w.heap.size w wr
  row : ∃ c : Array Value, wr.heap[b]? = some (.cells c 5) ∧ c.size = n

theorem Filling.cell {w wr : World} {b n : Nat} {R bb pb wd : Nat} {ht d ct : Int} {pa ta : Option Addr} {bs ts : List Int} {env : Value} (I : Filling w wr b n R bb pb wd ht d ct pa ta bs ts env) {i : Nat} (hi : i < n) : ∃ v, wr.cell? ⟨b, i, none⟩ = some v := by
  obtain ⟨c, h1, h2⟩ := I.row
  exact ⟨c[i]'(by omega), by simp [World.cell?, h1, h2, hi]⟩
theorem Filling.fz {w wr : World} {b n : Nat} {R bb pb wd : Nat} {ht d ct : Int} {pa ta : Option Addr} {bs ts : List Int} {env : Value} (I : Filling w wr b n R bb pb wd ht d ct pa ta bs ts env) (i : Nat) : wr.frozen? ⟨b, i, none⟩ = false := by
  obtain ⟨c, h1, h2⟩ := I.row
  simp [World.frozen?, h1]
theorem Filling.set {w wr : World} {b n : Nat} {R bb pb wd : Nat} {ht d ct : Int} {pa ta : Option Addr} {bs ts : List Int} {env : Value} (I : Filling w wr b n R bb pb wd ht d ct pa ta bs ts env) (A : Apart b R bb pb env pa ta) (hb : w.heap.size ≤ b) (i : Nat) (v : Value) : Filling w (wr.setCell ⟨b, i, none⟩ v) b n R bb pb wd ht d ct pa ta bs ts env := by
  obtain ⟨c, h1, h2⟩ := I.row
  exact ⟨I.fr.setCell A i v, I.below.setCell hb v, _, heap_set h1 i v, by simpa using h2⟩

theorem apart_of {w2 w3 w4 : World} {L1 R1 bb1 pb1 L2 R2 bb2 pb2 wd : Nat} {ht d ct : Int} {pa ta : Option Addr} {bs ts : List Int} {n : Nat} {env1 env2 : Value}
    (M1 : Made w2 w3 L1 R1 bb1 pb1 wd ht d ct (.slice pa bs.length bs.length) (.slice ta ts.length ts.length) n env1 (scaleOf d))
    (M2 : Made w3 w4 L2 R2 bb2 pb2 wd ht d ct (.slice pa bs.length bs.length) (.slice ta ts.length ts.length) n env2 (scaleOf d)) (E2 : Ents w3 w4 ct bs ts pb2 env2 (bs.length / 3)) (hP : BytesAt w2 pa bs) (hT : BytesAt w2 ta ts) : Apart bb1 R2 bb2 pb2 env2 pa ta := by
  have h1 : bb1 < w3.heap.size := (Array.getElem?_eq_some_iff.1 M1.buf).1
  have h2 := M2.gR
  have h3 := M2.gb
  have h4 := M2.gp
  have h5 := M1.gb
  refine ⟨by omega, by omega, by omega, ?_, ?_, ?_⟩
  · rintro eb l rfl
    rcases E2 with ⟨_, h⟩ | ⟨_, eb', h, _, h6, _⟩
    · cases h
    · cases h
      omega
  · rintro g rfl
    rcases hP with ⟨h, _⟩ | ⟨g', h, h6⟩
    · cases h
    · cases h
      have := (Array.getElem?_eq_some_iff.1 h6).1
      omega
  · rintro g rfl
    rcases hT with ⟨h, _⟩ | ⟨g', h, h6⟩
    · cases h
    · cases h
      have := (Array.getElem?_eq_some_iff.1 h6).1
      omega

set_option maxRecDepth 100000 in
set_option maxHeartbeats 1600000 in
theorem walk4_main (wd : Nat) (ht d ct : Int) (a0 a1 : Option Addr) (l0 c0 l1 c1 : Nat) (bs ts : List Int) (w : World) (hwd : wd ≤ 65536) (h0 : l0 ≤ 4096) (h1 : l1 ≤ 4096) (C0 : Came w a0 l0 c0 bs) (C1 : Came w a1 l1 c1 ts) (hbs : isByte bs) (hts : isByte ts) (C : ∀ ch, Valid ct d ch → ChIs w ct ch) :
    Calls Tryd.prog 4 #[.int .i64 (wd : Int), .int .i64 ht, .int .i64 d, .int .u8 ct, .slice a0 l0 c0, .slice a1 l1 c1] w fun e w' => e = .returned (.bool true) ∧ Below w.heap.size w w' := by
  have HC0 := Hid.mk C0
  have HC1 := Hid.mk C1
  have HC := Hid.mk C
  have HBS := Hid.mk (And.intro hbs hts)
  have HL : Hid (bs.length ≤ 4096 ∧ ts.length ≤ 4096) := ⟨by rw [C0.len]; exact h0, by rw [C1.len]; exact h1⟩
  clear C0 C1 C hbs hts
  go_enter Tryd.func4, Tryd.ntmps4
  go_wp2_with fail
  refine (bytes10_any _ _ _ _ a0 a1 l0 c0 l1 c1 _ (by unfold maxLen; omega) (by unfold maxLen; omega)).mono ?_
  rintro e w' ⟨rfl | rfl, rfl⟩
  · go_wp2_with fail
    refine (samples_any ct d _).mono ?_
    rintro e w' ⟨rfl | ⟨ch, rfl, hV⟩, rfl⟩
    · go_wp2_with fail
      go_ret
      exact ⟨rfl, Below.refl _ _⟩
    · have hc0 := valid_pos hV
      have HV := Hid.mk hV
      clear hV
      go_wp2_with fail
      refine (clone_came HC0.out h0).mono ?_
      rintro e w1 ⟨pa, rfl, hP, hb1⟩
      have HP := Hid.mk (And.intro hP hb1)
      clear hP hb1
      go_wp2_with fail
      refine (clone_came (HC1.out.kept HP.out.2) h1).mono ?_
      rintro e w2 ⟨ta, rfl, hT, hb2⟩
      have HT := Hid.mk (And.intro (HP.out.1.kept hb2) (And.intro hT (below_trans HP.out.2 hb2)))
      clear hT hb2 HP
      go_wp2_with fail
      refine (zznew_any (HC.out ch HV.out) HT.out.2.2 wd ht d pa ta bs ts HT.out.1 HT.out.2.1 HL.out.1 HL.out.2 _ hwd (nums_of HV.out wd hwd).row (nums_of HV.out wd hwd).cap).mono ?_
      rintro e w3 ⟨R1, rfl, L1, bb1, pb1, env1, M1, E1⟩
      have HM1 := Hid.mk (And.intro M1 E1)
      clear M1 E1
      go_wp2_with fail
      refine (zznew_any (HC.out ch HV.out) (below_trans HT.out.2.2 HM1.out.1.below) wd ht d pa ta bs ts (HT.out.1.kept HM1.out.1.below) (HT.out.2.1.kept HM1.out.1.below) HL.out.1 HL.out.2 _ hwd (nums_of HV.out wd hwd).row (nums_of HV.out wd hwd).cap).mono ?_
      rintro e w4 ⟨R2, rfl, L2, bb2, pb2, env2, M2, E2⟩
      have HA := Hid.mk (apart_of HM1.out.1 M2 E2 HT.out.1 HT.out.2.1)
      have HF1 := Hid.mk ((Fr.of (w0 := w) HM1.out.1 HM1.out.2 HT.out.1 HT.out.2.1).kept M2.below)
      have HF2 := Hid.mk (Fr.of (w0 := w) M2 E2 (HT.out.1.kept HM1.out.1.below) (HT.out.2.1.kept HM1.out.1.below))
      have HB : Hid (Below w.heap.size w w4 ∧ w.heap.size ≤ bb1) := ⟨below_trans (below_trans HT.out.2.2 HM1.out.1.below) M2.below, Nat.le_trans HT.out.2.2.size HM1.out.1.gb⟩
      clear M2 E2 HM1 HT HC HC0 HC1
      have hcap := (nums_of HV.out wd hwd).cap
      obtain ⟨n, hn⟩ : ∃ n, n = rowLen wd d ch := ⟨_, rfl⟩
      have HN := Hid.mk (nums_of HV.out wd hwd)
      rw [← hn] at HF1 HF2 HN hcap
      clear hn
      go_wp2_with fail
      refine (fresh_any HF1.out HN.out hwd HL.out.1 HL.out.2 HBS.out.1 HBS.out.2).mono ?_
      rintro e w5 ⟨rfl, k, rfl⟩
      go_wp2_with fail
      refine (buf_any (HF1.out.drewN k).rd).mono ?_
      rintro e w6 ⟨rfl, rfl⟩
      have H0 : Hid (Filling w (w4.drewN k) bb1 n R2 bb2 pb2 wd ht d ct pa ta bs ts env2) := ⟨HF2.out.drewN k, below_drewN HB.out.1 k, _, (HF1.out.drewN k).buf, by simp [u8a, u8s]⟩
      clear HF1 HF2
      generalize w4.drewN k = w5 at H0 ⊢
      go_wp2_with fail
      go_loopw [17] (fun t wr => ∃ k : Nat, k ≤ n ∧ t = .int .i64 k ∧ Hid (Filling w wr bb1 n R2 bb2 pb2 wd ht d ct pa ta bs ts env2)) (fun t _ => n - (intOf t).toNat)
      case atStart => exact ⟨0, Nat.zero_le _, rfl, H0⟩
      case round =>
        clear H0
        obtain ⟨k, hk, rfl, HI⟩ := hrel
        by_cases hlt : k < n
        · have hlt' : (k : Int) < (n : Int) := by omega
          obtain ⟨v, cv⟩ := HI.out.cell hlt
          have fz := HI.out.fz k
          go_wp2_with fail
          exact ⟨⟨k + 1, by omega, by go_num, HI.out.set HA.out HB.out.2 k _⟩, by simp [intOf]; omega⟩
        · go_wp2_with fail
          refine (fresh_any HI.out.fr HN.out hwd HL.out.1 HL.out.2 HBS.out.1 HBS.out.2).mono ?_
          rintro e w7 ⟨rfl, j, rfl⟩
          go_wp2_with fail
          go_ret
          exact ⟨rfl, below_drewN HI.out.below _⟩
  · go_wp2_with fail
    go_ret
    exact ⟨rfl, Below.refl _ _⟩

set_option maxRecDepth 100000 in
set_option maxHeartbeats 1600000 in
theorem walk4_early (wd ht d ct : Int) (a0 a1 : Option Addr) (l0 c0 l1 c1 : Nat) (w : World) (hm0 : l0 ≤ maxLen) (hm1 : l1 ≤ maxLen) (h : ¬ (l0 ≤ 4096 ∧ l1 ≤ 4096 ∧ 0 ≤ wd ∧ wd ≤ 65536)) :
    Calls Tryd.prog 4 #[.int .i64 wd, .int .i64 ht, .int .i64 d, .int .u8 ct, .slice a0 l0 c0, .slice a1 l1 c1] w fun e w' => e = .returned (.bool true) ∧ Below w.heap.size w w' := by
  have HM : Hid (l0 ≤ maxLen ∧ l1 ≤ maxLen) := ⟨hm0, hm1⟩
  have hz0 : l0 ≤ 9223372036854775807 := by unfold maxLen at hm0; omega
  have hz1 : l1 ≤ 9223372036854775807 := by unfold maxLen at hm1; omega
  clear hm0 hm1
  by_cases g0 : 4096 < l0
  · clear h
    go_enter Tryd.func4, Tryd.ntmps4
    go_wp2_with fail
    refine (bytes10_any _ _ _ _ a0 a1 l0 c0 l1 c1 _ HM.out.1 HM.out.2).mono ?_
    rintro e w' ⟨rfl | rfl, rfl⟩
    all_goals
      go_wp2_with fail
      go_ret
      exact ⟨rfl, Below.refl _ _⟩
  by_cases g1 : 4096 < l1
  · clear h
    go_enter Tryd.func4, Tryd.ntmps4
    go_wp2_with fail
    refine (bytes10_any _ _ _ _ a0 a1 l0 c0 l1 c1 _ HM.out.1 HM.out.2).mono ?_
    rintro e w' ⟨rfl | rfl, rfl⟩
    all_goals
      go_wp2_with fail
      go_ret
      exact ⟨rfl, Below.refl _ _⟩
  by_cases g2 : wd < 0
  · clear h
    go_enter Tryd.func4, Tryd.ntmps4
    go_wp2_with fail
    refine (bytes10_any _ _ _ _ a0 a1 l0 c0 l1 c1 _ HM.out.1 HM.out.2).mono ?_
    rintro e w' ⟨rfl | rfl, rfl⟩
    all_goals
      go_wp2_with fail
      go_ret
      exact ⟨rfl, Below.refl _ _⟩
  · have g3 : 65536 < wd := by omega
    clear h
    go_enter Tryd.func4, Tryd.ntmps4
    go_wp2_with fail
    refine (bytes10_any _ _ _ _ a0 a1 l0 c0 l1 c1 _ HM.out.1 HM.out.2).mono ?_
    rintro e w' ⟨rfl | rfl, rfl⟩
    all_goals
      go_wp2_with fail
      go_ret
      exact ⟨rfl, Below.refl _ _⟩

theorem walk4 (wd ht d ct : Int) (a0 a1 : Option Addr) (l0 c0 l1 c1 : Nat) (bs ts : List Int) (w : World) (hm0 : l0 ≤ maxLen) (hm1 : l1 ≤ maxLen) (C0 : Came w a0 l0 c0 bs) (C1 : Came w a1 l1 c1 ts) (hbs : isByte bs) (hts : isByte ts) (C : ∀ ch, Valid ct d ch → ChIs w ct ch) :
    Calls Tryd.prog 4 #[.int .i64 wd, .int .i64 ht, .int .i64 d, .int .u8 ct, .slice a0 l0 c0, .slice a1 l1 c1] w fun e w' => e = .returned (.bool true) ∧ Below w.heap.size w w' := by
  by_cases h : l0 ≤ 4096 ∧ l1 ≤ 4096 ∧ 0 ≤ wd ∧ wd ≤ 65536
  · obtain ⟨h0, h1, h2, h3⟩ := h
    obtain ⟨m, rfl⟩ := Int.eq_ofNat_of_zero_le h2
    exact walk4_main m ht d ct a0 a1 l0 c0 l1 c1 bs ts w (by omega) h0 h1 C0 C1 hbs hts C
  · exact walk4_early wd ht d ct a0 a1 l0 c0 l1 c1 w hm0 hm1 h

end Go.Proofs.Qxb6612991aDoorRR
