/-
  Seat Qxb6612987a: FnJoinScriptLeadsAtFirstOccurrence: the walk.
-/
import Derived.Test.Qxb6612987aScript1
import Derived.Test.Qxb6612987aStrs
import Derived.Laws.MakeOwn
import Derived.BigQuiet
import Derived.Deep.QuietTactic
namespace Go.Proofs.Qxb6612987a
open Go.RowKit Go.Maps Go.MuLone
set_option linter.unusedVariables false

theorem run_map38 (n : Int) (w : World) : (Instr.makeMap 38 (some (.int .i64 n))).run Try.prog w = .ok (.map (some w.heap.size)) (w.alloc (.map #[] 0)) := by
  simp [Instr.makeMap, run_underlying Try.underlying38, asInt, asIntOf]

theorem info24 : (Try.prog.info? 24).map (fun i => (i.zero, i.size, i.bytes)) = some (some (.pointer none), 1, 8) := by kernel_rfl

theorem run_got (len : Nat) (h : len ≤ 65536) (w : World) : (Instr.makeSlice 39 (.int .i64 (len : Int)) (.int .i64 (len : Int))).run Try.prog w = .ok (.slice (some ⟨w.heap.size, 0, none⟩) len len) (w.alloc (.cells (madeCells #[.pointer none] len) 24)) := by
  obtain ⟨i, hi, hz0, hz1, hz2⟩ := info_parts info24
  have := run_make (P := Try.prog) w 39 24 i (.pointer none) Try.underlying39 hi hz0 .i64 .i64 (len : Int) (len : Int) (by omega) (Int.le_refl _) (by rw [hz2]; omega) (by omega)
  rw [hz1] at this
  simp at this
  exact this

theorem Mid.cell {w w1 w2 : World} {ss : Nat → ByteArray} {len s mb m1 m2 gb i b : Nat} (M : Mid w w1 ss len s mb m1 m2 gb i b) (hi : i < len) (hg : w1.grownBy w2 (some m1)) : ∃ v, w2.cell? ⟨gb, i, none⟩ = some v := by
  obtain ⟨B, rfl, S, M1, M2, Fl, G, hb⟩ := M
  exact (G.kept (hg.block gb G.lt (by simp; exact G.ne_map M1))).some hi
theorem Mid.fz {w w1 w2 : World} {ss : Nat → ByteArray} {len s mb m1 m2 gb i b : Nat} (M : Mid w w1 ss len s mb m1 m2 gb i b) (hg : w1.grownBy w2 (some m1)) : w2.frozen? ⟨gb, i, none⟩ = false := by
  obtain ⟨B, rfl, S, M1, M2, Fl, G, hb⟩ := M
  exact (G.kept (hg.block gb G.lt (by simp; exact G.ne_map M1))).fz i
theorem Mid.first {w w1 : World} {ss : Nat → ByteArray} {len s mb m1 m2 gb i b : Nat} (M : Mid w w1 ss len s mb m1 m2 gb i b) : MapIs w1 m1 i (firstF ss i) := by
  obtain ⟨B, rfl, S, M1, M2, Fl, G, hb⟩ := M
  exact M1
theorem Mid.count {w w1 w2 : World} {ss : Nat → ByteArray} {len s mb m1 m2 gb i b : Nat} (L : Lay w s mb m1 m2 gb) (M : Mid w w1 ss len s mb m1 m2 gb i b) (hg : w1.grownBy w2 (some m1)) (v : Value) : MapIs (w2.setCell ⟨gb, i, none⟩ v) m2 i (countF ss i) := by
  obtain ⟨B, rfl, S, M1, M2, Fl, G, hb⟩ := M
  exact (M2.kept (hg.block m2 M2.lt (by simp; exact fun e => L.n12 e.symm))).kept ((grown_set w2 gb i v).block m2 (Nat.lt_of_lt_of_le M2.lt hg.size) (by simp; exact fun e => G.ne_map M2 e.symm))
theorem Mid.got {w w1 : World} {ss : Nat → ByteArray} {len s mb m1 m2 gb i b j : Nat} (M : Mid w w1 ss len s mb m1 m2 gb i b) (hj : j < i) (hs : ss j = ss i) : w1.cell? ⟨gb, j, none⟩ = some (.pointer (some ⟨b, 0, none⟩)) := by
  obtain ⟨B, rfl, S, M1, M2, Fl, G, hb⟩ := M
  rw [G.cell hj, hs]
theorem grown_refl (w : World) (row : Option Nat) : w.grownBy w row := ⟨rfl, rfl, rfl, Nat.le_refl _, fun _ _ _ => rfl⟩

theorem firstF_miss (ss : Nat → ByteArray) (i : Nat) (h : cnt ss (ss i) i = 0) : (firstF ss i (ss i)).getD (.int .i64 0) = .int .i64 0 ∧ (firstF ss i (ss i)).isSome = false := by
  simp [firstF, fst1_none ss _ i h]
theorem firstF_hit (ss : Nat → ByteArray) (i n j : Nat) (h : fst1 ss (ss i) n = some j) : (firstF ss n (ss i)).getD (.int .i64 0) = .int .i64 (j : Int) ∧ (firstF ss n (ss i)).isSome = true := by
  simp [firstF, h]

/-- Behind the first loop: what the second one reads of the name at i. -/
theorem Inv.reads {w wr : World} {ss : Nat → ByteArray} {len s mb m1 m2 gb i : Nat} (I : Inv w wr ss len s mb m1 m2 gb len) (hi : i < len) :
    ∃ b, wr.cell? ⟨gb, i, none⟩ = some (.pointer (some ⟨b, 0, none⟩)) ∧ FlightIs wr b (ss i) false false .nilIface (cnt ss (ss i) len : Int) ∧ ∃ f, FlightsIs wr s mb len f ∧ (f (ss i)).getD (.pointer none) = .pointer (some ⟨b, 0, none⟩) := by
  obtain ⟨B, S, M1, M2, Fl, G, hb⟩ := I
  have hp := cnt_pos ss len i hi
  refine ⟨B (ss i), G.cell hi, (Fl _ hp).1, _, S, ?_⟩
  have : ¬ cnt ss (ss i) len = 0 := by omega
  simp [listF, this]
theorem Inv.first {w wr : World} {ss : Nat → ByteArray} {len s mb m1 m2 gb i : Nat} (I : Inv w wr ss len s mb m1 m2 gb i) : MapIs wr m1 i (firstF ss i) := by
  obtain ⟨B, S, M1, M2, Fl, G, hb⟩ := I
  exact M1
theorem Inv.count {w wr : World} {ss : Nat → ByteArray} {len s mb m1 m2 gb i : Nat} (I : Inv w wr ss len s mb m1 m2 gb i) : MapIs wr m2 i (countF ss i) := by
  obtain ⟨B, S, M1, M2, Fl, G, hb⟩ := I
  exact M2
theorem Inv.below {w wr : World} {ss : Nat → ByteArray} {len s mb m1 m2 gb i : Nat} (I : Inv w wr ss len s mb m1 m2 gb i) : Below w.heap.size w wr := by
  obtain ⟨B, S, M1, M2, Fl, G, hb⟩ := I
  exact hb
theorem Inv.drewN {w wr : World} {ss : Nat → ByteArray} {len s mb m1 m2 gb i : Nat} (I : Inv w wr ss len s mb m1 m2 gb i) (n : Nat) : Inv w (wr.drewN n) ss len s mb m1 m2 gb i := by
  obtain ⟨B, S, M1, M2, Fl, G, hb⟩ := I
  exact ⟨B, S.kept rfl rfl, M1.kept rfl, M2.kept rfl, fun k hk => ⟨(Fl k hk).1.kept rfl, (Fl k hk).2⟩, G.kept rfl, hb.os, hb.tape, hb.output, hb.size, hb.block⟩

theorem FlightsIs.drewN {w : World} {s mb n : Nat} {f : ByteArray → Option Value} (S : FlightsIs w s mb n f) (k : Nat) : FlightsIs (w.drewN k) s mb n f := S.kept rfl rfl
theorem FlightIs.drewN {w : World} {b : Nat} {nm : ByteArray} {st en : Bool} {er : Value} {h : Int} (F : FlightIs w b nm st en er h) (k : Nat) : FlightIs (w.drewN k) b nm st en er h := F.kept rfl

theorem quiet_same {P : Program} {f : FuncId} {args : Array Value} {w : World} {n : Nat} {v : Value}
    (h : Calls P f args (w.drewN n) fun e w' => e = .returned v ∧ w.drewN n = w') : Calls P f args (w.drewN n) fun e w'' => e = .returned v ∧ ∃ m, w'' = w.drewN m :=
  h.mono fun _ _ ⟨he, hm⟩ => ⟨he, n, hm.symm⟩

set_option maxRecDepth 100000 in
set_option maxHeartbeats 3200000 in
theorem walk4_main (b0 off len cap : Nat) (ss : Nat → ByteArray) (w : World) (hl : len ≤ 65536) (hc : ∀ i, i < len → w.cell? ⟨b0, off + i, none⟩ = some (.string (ss i))) (hs : ∀ i, (ss i).size ≤ maxLen) (hb0 : b0 < w.heap.size) :
    Calls Try.prog 4 #[.slice (some ⟨b0, off, none⟩) len cap] w fun e w' => e = .returned (.bool true) ∧ Below w.heap.size w w' := by
  have hmm := run_map38
  have hmk := run_got len hl
  have hlm : len ≤ maxLen := by unfold maxLen; omega
  go_enter Try.func4, Try.ntmps4
  go_wp2_with fail
  refine (bytes17_any b0 off len cap ss _ hlm hc hs).mono ?_
  rintro e w' ⟨⟨c, rfl⟩, rfl⟩
  cases c
  · go_wp2_with fail
    go_ret
    exact ⟨rfl, Below.refl _ _⟩
  go_wp2_with fail
  refine (adds18_any b0 off len cap ss _ hl hc hs).mono ?_
  rintro e w' ⟨⟨c, rfl⟩, rfl⟩
  by_cases hcc : 1048576 < c
  · go_wp2_with fail
    go_ret
    exact ⟨rfl, Below.refl _ _⟩
  go_wp2_with fail
  refine (newFlights_any _).mono ?_
  rintro e w1 ⟨s, mb, rfl, S1, hg1, hs1, hm1⟩
  have hsl := S1.lt
  have hml := S1.2.lt
  have HL : Hid (Lay w s mb w1.heap.size (w1.heap.size + 1) (w1.heap.size + 1 + 1)) := ⟨hs1, hm1, hg1.size, by have := hg1.size; omega, by have := hg1.size; omega, by omega, by omega, by omega⟩
  have HI : Hid (Inv w (((w1.alloc (.map #[] 0)).alloc (.map #[] 0)).alloc (.cells (madeCells #[.pointer none] len) 24)) ss len s mb w1.heap.size (w1.heap.size + 1) (w1.heap.size + 1 + 1) 0) := by
    have hgA : w1.grownBy (((w1.alloc (.map #[] 0)).alloc (.map #[] 0)).alloc (.cells (madeCells #[.pointer none] len) 24)) none := ((World.grownBy_alloc _ _ _).trans (World.grownBy_alloc _ _ _)).trans (World.grownBy_alloc _ _ _)
    refine ⟨fun _ => 0, ?_, ?_, ?_, fun k hk => by simp [cnt] at hk, ?_, ((Below.refl _ _).grown hg1 (Nat.le_refl _) (by simp)).grown hgA hg1.size (by simp)⟩
    · rw [listF_zero]
      exact S1.kept (hgA.block s hsl (by simp)) (hgA.block mb hml (by simp))
    · rw [firstF_zero]
      refine (MapIs.made w1).kept ?_
      rw [heap_old _ _ _ (by rw [size_new, size_new]; omega), heap_old _ _ _ (by rw [size_new]; omega)]
    · rw [countF_zero]
      have h := MapIs.made (w1.alloc (.map #[] 0))
      rw [size_new] at h
      refine h.kept ?_
      rw [heap_old _ _ _ (by rw [size_new, size_new]; omega)]
    · refine ⟨madeCells #[.pointer none] len, ?_, size_madeCells _ _, fun j hj => by omega⟩
      have h := heap_new ((w1.alloc (.map #[] 0)).alloc (.map #[] 0)) (.cells (madeCells #[.pointer none] len) 24)
      rw [size_new, size_new] at h
      exact h
  clear S1 hg1 hs1 hm1 hsl hml
  have HC := Hid.mk hc
  clear hc
  go_wp2_with fail
  generalize ((w1.alloc (.map #[] 0)).alloc (.map #[] 0)).alloc (.cells (madeCells #[.pointer none] len) 24) = W0 at HI ⊢
  generalize w1.heap.size + 1 + 1 = gb at HL HI ⊢
  generalize w1.heap.size + 1 = m2 at HL HI ⊢
  generalize w1.heap.size = m1 at HL HI ⊢
  clear hmm hmk
  go_loopw [7] (fun i wr => ∃ k : Nat, k ≤ len ∧ i = .int .i64 k ∧ Hid (Inv w wr ss len s mb m1 m2 gb k)) (fun i _ => len - (intOf i).toNat)
  case atStart => exact ⟨0, Nat.zero_le _, rfl, HI⟩
  case round =>
    clear HI
    obtain ⟨k, hk, rfl, HI⟩ := hrel
    by_cases hlt : k < len
    · have hcell : wr.cell? ⟨b0, off + k, none⟩ = some (.string (ss k)) := (HI.out.below.cell (p := ⟨b0, off + k, none⟩) hb0).trans (HC.out k hlt)
      have hsz := hs k
      have hkm : k < maxLen := by unfold maxLen; omega
      by_cases hz : cnt ss (ss k) k = 0
      · have HZ := Hid.mk hz
        clear hz
        go_wp2_with fail
        refine (Inv.join_new HL.out HI.out hkm hsz HZ.out).mono ?_
        rintro e w2 ⟨b, rfl, M, F⟩
        have HF := Hid.mk (firstF_miss ss k HZ.out)
        have HM := Hid.mk M
        have M1 := M.first
        clear M
        have hcn : (cnt ss (ss k) k : Int) ≤ 65536 := by have := cnt_le ss (ss k) k; omega
        go_wp2_with (first
          | (at_lookup; refine wpList_look_ok _ rfl _ _ 38 rfl 3 Try.underlying38 _ (zero3 _) m1 k (firstF ss k) rfl M1 (ss k) rfl hsz (.int .i64 0) false HF.out.1 HF.out.2 ?_)
          | (go_at_call 12; refine (name_any F).mono ?_; rintro e w' ⟨rfl, rfl⟩)
          | (at_mapUpdate; refine wpList_put _ rfl _ _ _ 38 rfl 3 Try.underlying38 m1 k (firstF ss k) rfl M1 hkm (ss k) rfl hsz (.int .i64 (k : Int)) rfl ?_; intro w3 hm3 hg3; obtain ⟨v3, c3⟩ := HM.out.cell hlt hg3; have f3 := HM.out.fz hg3; have M2 := HM.out.count HL.out hg3 (.pointer (some ⟨b, 0, none⟩)))
          | (at_lookup; refine wpList_look _ rfl _ _ 38 rfl 3 Try.underlying38 _ (zero3 _) m2 k (countF ss k) rfl M2 (ss k) rfl hsz (.int .i64 (cnt ss (ss k) k : Int)) (countF_get ss k (ss k)) ?_)
          | (at_mapUpdate; refine wpList_put _ rfl _ _ _ 38 rfl 3 Try.underlying38 m2 k (countF ss k) rfl M2 hkm (ss k) rfl hsz (.int .i64 ((cnt ss (ss k) k : Int) + 1)) rfl ?_; intro w4 hm4 hg4))
        refine ⟨⟨k + 1, by omega, by go_num, ?_⟩, by simp [intOf]; omega⟩
        exact HM.out.done HL.out hlt hg3 (firstF_new ss k HZ.out ▸ hm3) hg4 (countF_step ss k ▸ hm4)
      · have hz' : 0 < cnt ss (ss k) k := by omega
        have HZ := Hid.mk hz'
        clear hz hz'
        have hk6 : k ≤ 65536 := by omega
        go_wp2_with fail
        refine (Inv.join_hit HL.out HI.out hk6 hsz HZ.out).mono ?_
        rintro e w2 ⟨b, rfl, M⟩
        obtain ⟨j, hj, hjk, hjs⟩ := fst1_some ss (ss k) k HZ.out
        have HF := Hid.mk (firstF_hit ss k k j hj)
        clear hj
        have HM := Hid.mk M
        have M1 := M.first
        have gj := M.got hjk hjs
        obtain ⟨v3, c3⟩ := M.cell hlt (grown_refl w2 (some m1))
        have f3 := M.fz (grown_refl w2 (some m1))
        have M2 := M.count HL.out (grown_refl w2 (some m1)) (.pointer (some ⟨b, 0, none⟩))
        have E1 := neq24_same w2 ⟨b, 0, none⟩
        have hjl : j < len := by omega
        clear M hjs
        have hcn : (cnt ss (ss k) k : Int) ≤ 65536 := by have := cnt_le ss (ss k) k; omega
        go_wp2_with (first
          | (at_lookup; refine wpList_look_ok _ rfl _ _ 38 rfl 3 Try.underlying38 _ (zero3 _) m1 k (firstF ss k) rfl M1 (ss k) rfl hsz (.int .i64 (j : Int)) true HF.out.1 HF.out.2 ?_)
          | (at_lookup; refine wpList_look _ rfl _ _ 38 rfl 3 Try.underlying38 _ (zero3 _) m2 k (countF ss k) rfl M2 (ss k) rfl hsz (.int .i64 (cnt ss (ss k) k : Int)) (countF_get ss k (ss k)) ?_)
          | (at_mapUpdate; refine wpList_put _ rfl _ _ _ 38 rfl 3 Try.underlying38 m2 k (countF ss k) rfl M2 hkm (ss k) rfl hsz (.int .i64 ((cnt ss (ss k) k : Int) + 1)) rfl ?_; intro w4 hm4 hg4))
        refine ⟨⟨k + 1, by omega, by go_num, ?_⟩, by simp [intOf]; omega⟩
        exact HM.out.done HL.out hlt (grown_refl w2 (some m1)) (firstF_old ss k HZ.out ▸ M1.mono (Nat.le_succ _)) hg4 (countF_step ss k ▸ hm4)
    · have hkl : k = len := by omega
      subst hkl
      go_wp2_with fail
      go_loopw [13] (fun i wr => ∃ j : Nat, j ≤ k ∧ i = .int .i64 j ∧ Hid (Inv w wr ss k s mb m1 m2 gb k)) (fun i _ => k - (intOf i).toNat)
      case atStart => exact ⟨0, Nat.zero_le _, rfl, HI⟩
      case round =>
        clear HI
        obtain ⟨j, hj, rfl, HI⟩ := hrel
        by_cases hjt : j < k
        · have hcell : wr.cell? ⟨b0, off + j, none⟩ = some (.string (ss j)) := (HI.out.below.cell (p := ⟨b0, off + j, none⟩) hb0).trans (HC.out j hjt)
          have hsz := hs j
          obtain ⟨j1, hj1, hj1k, hj1s⟩ := fst1_some ss (ss j) k (cnt_pos ss k j hjt)
          have HF := Hid.mk (firstF_hit ss j k j1 hj1)
          have M1 := HI.out.first
          by_cases hje : j1 = j
          · subst hje
            obtain ⟨b, gb1, F, f, S, hf⟩ := HI.out.reads hjt
            have M2 := HI.out.count
            have hlk : ∀ nq, (Instr.lookup 38 (.map (some m2)) (.string (ss j1)) false).run Try.prog (wr.drewN nq) = .ok (.int .i64 (cnt ss (ss j1) k : Int)) (wr.drewN nq) := fun nq => by
              have := (M2.kept (w' := wr.drewN nq) rfl).look Try.underlying38 (zero3 _) hsz
              rw [countF_get] at this
              exact this
            have E1 := fun w => neq24_same w ⟨b, 0, none⟩
            clear hj1 hj1s M2
            have HFF := Hid.mk hf
            clear hf
            go_wp2_with (at_lookup; refine wpList_look _ rfl _ _ 38 rfl 3 Try.underlying38 _ (zero3 _) m1 k (firstF ss k) rfl M1 (ss j1) rfl hsz (.int .i64 (j1 : Int)) HF.out.1 ?_)
            go_quiet ((first
              | (go_at_call 10; exact quiet_same (holders_any (F.drewN _)))
              | (go_at_call 11; exact quiet_same (lookup_any (S.drewN _) (ss j1) hsz (.pointer (some ⟨b, 0, none⟩)) HFF.out))
              | (go_at_call 13; exact quiet_same (started_any (F.drewN _)))
              | (go_at_call 14; exact quiet_same (ended_any (F.drewN _)))))
            go_wp2_with fail
            exact ⟨⟨j1 + 1, by omega, by go_num, HI.out.drewN _⟩, by simp [intOf]; omega⟩
          · have hbe : ((j1 : Int) != (j : Int)) = true := by rw [bne_iff_ne]; omega
            clear hj1 hj1s
            go_wp2_with (at_lookup; refine wpList_look _ rfl _ _ 38 rfl 3 Try.underlying38 _ (zero3 _) m1 k (firstF ss k) rfl M1 (ss j) rfl hsz (.int .i64 (j1 : Int)) HF.out.1 ?_)
            exact ⟨⟨j + 1, by omega, by go_num, HI⟩, by simp [intOf]; omega⟩
        · go_wp2_with fail
          go_ret
          exact ⟨rfl, HI.out.below⟩

end Go.Proofs.Qxb6612987a
