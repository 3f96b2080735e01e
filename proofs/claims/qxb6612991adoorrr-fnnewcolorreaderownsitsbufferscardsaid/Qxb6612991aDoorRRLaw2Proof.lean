/-
  Seat Qxb6612991aDoorRR: fnNewColorReaderOwnsItsBuffers: the row and its tied card.
-/
import Derived.Test.Qxb6612991aDoorRRRows
import Derived.Test.Qxb6612991aDoorRRTie
import Derived.Test.Qxb6612991aDoorRRCards
import Derived.Test.Qxb6612991aDoorRRLaid
import Derived.Test.Qxb6612991aDoorRRLaw2
import Derived.WalkKit
import Derived.ProofKit
import Derived.OpenShut
import Derived.ChangeOld
import Derived.Below
import Derived.OpenVars
import Derived.SevenTiedAt
namespace Go.Proofs.Qxb6612991aDoorRR.fnNewColorReaderOwnsItsBuffers
open Go.ChangeShapes Go.WideShapes Go.ChangeAt Go.RowKit Go.WideElems
set_option linter.unusedVariables false

/-- What the walk is told of a byte slice that came in. -/
theorem came_of {H : Type} {enc : TypeId × Value → H} {W : World} {a : Option Addr} {len cap : Nat} {d : DataW H} {p : List MemPlace} {held : Bool}
    (h : ∃ fuel, DataW.trod enc Tryd.prog W 0 (fun _ => true) held fuel 22 (Value.slice a len cap).cells.toList = some (d, p)) : ∃ bs, len ≤ maxLen ∧ Came W a len cap bs ∧ isByte bs := by
  obtain ⟨fuel, hf⟩ := h
  rcases open_ints Tryd.underlying22 Tryd.underlying5 (by kernel_rfl) hf with ⟨hcs, _⟩ | ⟨x, l, c, zs, hcs, _, hl, hm, hz, _, hcell, hwz⟩
  · simp [Value.cells] at hcs
    obtain ⟨rfl, rfl, rfl⟩ := hcs
    exact ⟨[], Nat.zero_le _, .inl ⟨rfl, rfl, rfl, rfl⟩, fun i => by simp⟩
  · simp [Value.cells] at hcs
    obtain ⟨rfl, rfl, rfl⟩ := hcs
    have hz' : zs.length = cap := by simpa using hz
    refine ⟨zs.take len, Nat.le_trans hl hm, .inr ⟨_, rfl, by rw [List.length_take]; omega, fun i hi => ?_⟩, fun i => ?_⟩
    · rw [hcell i (by omega)]
      simp [List.getD_eq_getElem?_getD, hi]
    · by_cases hi : i < (zs.take len).length
      · have hmem : (zs.take len).getD i 0 ∈ zs := by
          rw [List.getD_eq_getElem?_getD, List.getElem?_eq_getElem hi]
          exact List.mem_of_mem_take (List.getElem_mem hi)
        have hy := hwz _ hmem
        have e0 : IntKind.u8.min = 0 := by decide
        have e1 : IntKind.u8.max = 255 := by decide
        simp only [Lit.wf, e0, e1, Bool.and_eq_true, decide_eq_true_eq] at hy
        exact hy
      · rw [List.getD_eq_getElem?_getD, List.getElem?_eq_none (by omega)]
        simp

set_option maxRecDepth 100000 in
theorem lifted (os : Os) (started : os.Started) (H : Type) (enc : TypeId × Value → H) :
    ReturnsInHanded {} Tryd.checked os 4 .any (fun w args => (Rows.fnNewColorReaderOwnsItsBuffersSpec.pre enc Tryd.prog Tryd.f4 [] false w args ∧ laidMetH Tryd.prog laid1 w) ∧ sizedMet enc Tryd.prog Tryd.f4 (OpenSpec.ofChange Rows.fnNewColorReaderOwnsItsBuffersSpec) false w args)
      (Rows.fnNewColorReaderOwnsItsBuffersSpec.post enc Tryd.prog Tryd.f4 false true false false) := by
  refine returnsInHanded_of_change_and (C := Tryd.checked) (X := fun w _ => laidMetH Tryd.prog laid1 w) (fun _ _ _ hh h => h.of_heap hh) own started (by kernel_rfl) Tryd.func4
    (ChangeSpec.witness_shaped (enc := enc) (C := Tryd.checked) (os := os) (X := fun w _ => laidMetH Tryd.prog laid1 w) false (World.doorLaid Tryd.prog 400 os) #[.int .i64 0, .int .i64 0, .int .i64 0, .int .u8 0, .slice none 0 0, .slice none 0 0] 8 rfl (World.shaped_of_RefB (by kernel_rfl) (by kernel_rfl)) (by kernel_rfl) (by kernel_rfl) (by kernel_rfl) (door_met os _)) ?_
  intro W base args ds gs before hval0 hW _ _ hL _
  have hval : ∀ (j : Nat) t v, Tryd.f4.params[j]? = some t → args[j]? = some v → Value.okWide Tryd.prog W .any base t v := hval0
  have hW' := hW
  obtain ⟨p, q, hA0, hV, rfl, hfz, hnd⟩ := hW
  have hA : DataW.TrodAll enc Tryd.prog W 0 (fun _ => true) true Tryd.f4.params.toList args.toList ds p := hA0
  rw [Tryd.params4] at hA hval
  obtain ⟨v0, vs0, d0, ds0, p0, q0, hargs, rfl, rfl, h0, r0⟩ := trodAll_cons hA
  obtain ⟨v1, vs1, d1, ds1, p1, q1, rfl, rfl, rfl, h1, r1⟩ := trodAll_cons r0
  obtain ⟨v2, vs2, d2, ds2, p2, q2, rfl, rfl, rfl, h2, r2⟩ := trodAll_cons r1
  obtain ⟨v3, vs3, d3, ds3, p3, q3, rfl, rfl, rfl, h3, r3⟩ := trodAll_cons r2
  obtain ⟨v4, vs4, d4, ds4, p4, q4, rfl, rfl, rfl, h4, r4⟩ := trodAll_cons r3
  obtain ⟨v5, vs5, d5, ds5, p5, q5, rfl, rfl, rfl, h5, r5⟩ := trodAll_cons r4
  obtain ⟨rfl, rfl, rfl⟩ := trodAll_nil r5
  obtain rfl : args = #[v0, v1, v2, v3, v4, v5] := by cases args; simp_all
  obtain ⟨a, rfl, rfl, rfl, wa⟩ := open_int Tryd.underlying3 (hval 0 3 v0 rfl rfl) h0
  obtain ⟨b, rfl, rfl, rfl, wb⟩ := open_int Tryd.underlying3 (hval 1 3 v1 rfl rfl) h1
  obtain ⟨c, rfl, rfl, rfl, wc⟩ := open_int Tryd.underlying3 (hval 2 3 v2 rfl rfl) h2
  obtain ⟨ct, rfl, rfl, rfl, wct⟩ := open_int Tryd.underlying5 (hval 3 5 v3 rfl rfl) h3
  obtain ⟨a4, len4, cap4, rfl⟩ := okWide_slice Tryd.underlying22 (hval 4 22 v4 rfl rfl)
  obtain ⟨a5, len5, cap5, rfl⟩ := okWide_slice Tryd.underlying22 (hval 5 22 v5 rfl rfl)
  have lt4 : ∀ x ∈ p4, x.block < W.heap.size := by obtain ⟨m, hm⟩ := h4; exact DataW.trod_lt m _ _ _ hm
  have lt5 : ∀ x ∈ p5, x.block < W.heap.size := by obtain ⟨m, hm⟩ := h5; exact DataW.trod_lt m _ _ _ hm
  obtain ⟨bs, m4, C4, B4⟩ := came_of h4
  obtain ⟨ts, m5, C5, B5⟩ := came_of h5
  have hV2 := hV
  obtain ⟨g1, t1, cs1, f1, dv, pv, rfl, _, _, _, _, _⟩ := trodVars_one hV
  clear hA0 hval0
  refine (walk4 a b c ct a4 a5 len4 cap4 len5 cap5 bs ts W m4 m5 C4 C5 B4 B5 (fun ch hv => chis_of hL ct c ch hv)).mono fun e W' ⟨he, bel⟩ => ?_
  subst he
  exact ⟨_, rfl, _, _, _, [], _, q, hW', trodAll_mk1 (shut_bool Tryd.underlying4 _),
    (trodAll_cons_mk (shut_int Tryd.underlying3 wa) (trodAll_cons_mk (shut_int Tryd.underlying3 wb) (trodAll_cons_mk (shut_int Tryd.underlying3 wc) (trodAll_cons_mk (shut_int Tryd.underlying5 wct)
      (trodAll_cons_mk (Below.trod laidOut (by kernel_rfl) (of_decide_eq_true (by kernel_rfl)) h4 bel lt4) (trodAll_cons_mk (Below.trod laidOut (by kernel_rfl) (of_decide_eq_true (by kernel_rfl)) h5 bel lt5) trodAll_mk0)))))),
    Below.trodVars laidOut bel (by kernel_rfl) hV2, bel.frame _, fun h => by cases h⟩

theorem over : Rows.fnNewColorReaderOwnsItsBuffersRow.holds Tryd.pinned (OpenSpec.ofChange Rows.fnNewColorReaderOwnsItsBuffersSpec) :=
  OpenClaim.holds_of_wide 4 Tryd.f4 rfl rfl rfl rfl rfl rfl rfl ⟨rfl, rfl, rfl, rfl, rfl⟩ rfl rfl rfl rfl rfl (by kernel_rfl) Tryd.func4 (by kernel_rfl)
    (of_decide_eq_true (by kernel_rfl)) (by unfold Func.isWrapper; first | (rw [if_pos (by decide +kernel)]; kernel_rfl) | (rw [if_neg (by decide +kernel)]; exact ⟨rfl, rfl⟩))
    (fun os started H enc _ => lifted os started H enc)

/-- ████ THE TIED CARD ████ -/
theorem proved : Rows.FnNewColorReaderOwnsItsBuffersCardSaid :=
  Claim7.holds_tied_plain_at .later [] [.mapped] true (true, "acada8f8a7ff0a96926bc74698f4f340e60700606ed54a8551b2777cbd41376d") false
    over (fun _ h => by cases h) (by kernel_rfl) (fun _ h => by cases h) fnNewColorReaderOwnsItsBuffers_row_tie rfl ⟨rfl, rfl⟩ (by kernel_rfl) rfl
    (fun f fn hf hfn => by
      obtain rfl : f = 4 := Option.some.inj ((show Tryd.prog.funcNamed Rows.fnNewColorReaderOwnsItsBuffersRow.func = some 4 by kernel_rfl).symm.trans hf) |>.symm
      obtain rfl : fn = Tryd.f4 := (Option.some.inj (Tryd.func4.symm.trans hfn)).symm
      exact ⟨by kernel_rfl, fun j t ht => by
        rw [Tryd.params4] at ht
        have hm : t ∈ [3, 3, 3, 5, 22, 22] := by simpa using Array.mem_of_getElem? ht
        have hall : ([3, 3, 3, 5, 22, 22].all fun u => !Tryd.prog.wantsStandIn u) = true := by kernel_rfl
        exact (show Tryd.prog.wantsStandIn t = false by simpa using List.all_eq_true.1 hall t hm)⟩)
    (by kernel_rfl)
end Go.Proofs.Qxb6612991aDoorRR.fnNewColorReaderOwnsItsBuffers

namespace Go.Proofs.Qxb6612991aDoorRR
theorem fnNewColorReaderOwnsItsBuffers_proved : Rows.FnNewColorReaderOwnsItsBuffersCardSaid := fnNewColorReaderOwnsItsBuffers.proved
end Go.Proofs.Qxb6612991aDoorRR
