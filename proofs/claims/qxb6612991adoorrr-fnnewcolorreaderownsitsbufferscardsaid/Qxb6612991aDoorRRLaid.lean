/-
  Seat Qxb6612991aDoorRR: what the listed table gives the walks.
-/
import Derived.Test.Qxb6612991aDoorRRRows
import Derived.Test.Qxb6612991aDoorRRSmall
import Derived.Test.Qxb6612991aDoorRRSamples
import Derived.ProofKit
import Derived.LaidMore
import Derived.OpenShut
import Derived.Stop.Joined
import Derived.Maps.Keyed
namespace Go.Proofs.Qxb6612991aDoorRR
open Go.ChangeShapes Go.WideShapes Go.ChangeAt Go.WideElems Go.RowKit
set_option linter.unusedVariables false

theorem own : ownKnob Tryd.prog.godebug = none := by kernel_rfl
theorem laidOut : laidOutB Tryd.prog = true := by kernel_rfl
theorem gTypes : Tryd.prog.globalNamed "example.com/pred5/pred5.colorTypes" = some 0 := by kernel_rfl
theorem tTypes : (Tryd.prog.globals[0]?).map (·.type) = some 61 := by kernel_rfl
theorem keyed31 : Go.Maps.Keyed Tryd.prog 31 := Go.Maps.int_keyed Tryd.underlying31
theorem zero60 (w : World) : (zeroValue 60).run Tryd.prog w = .ok (.agg #[.int .i64 0, .slice none 0 0]) w := by kernel_rfl
theorem cells60 : Tryd.prog.cellsOf 60 = 2 := by kernel_rfl
theorem cells3 : Tryd.prog.cellsOf 3 = 1 := by kernel_rfl

theorem pair_inj {α β γ : Type} (f : α → β) (g : β → γ) : ∀ (l : List α), (l.map f).Pairwise (fun p q => g p ≠ g q) → ∀ a, a ∈ l → ∀ b, b ∈ l → g (f a) = g (f b) → a = b
  | [], _, a, ha, _, _, _ => by cases ha
  | c :: l, h, a, ha, b, hb, e => by
    rw [List.map_cons, List.pairwise_cons] at h
    rcases List.mem_cons.1 ha with ha' | ha'
    · rcases List.mem_cons.1 hb with hb' | hb'
      · rw [ha', hb']
      · subst ha'
        exact absurd e (h.1 _ (List.mem_map.2 ⟨b, hb', rfl⟩))
    · rcases List.mem_cons.1 hb with hb' | hb'
      · subst hb'
        exact absurd e.symm (h.1 _ (List.mem_map.2 ⟨a, ha', rfl⟩))
      · exact pair_inj f g l h.2 a ha' b hb' e

def laid1 : List (String × DataW Unit) := [("example.com/pred5/pred5.colorTypes", Rows.laid_example_com_pred5_pred5_colorTypes)]

theorem of_laid {W : World} (h : laidMetH Tryd.prog laid1 W) (ct ch : Int) (hct : (Lit.int .u8 ct).wf = true) (ds : DataW Unit) (hat0 : (Rows.laid_example_com_pred5_pred5_colorTypes : DataW Unit).atKey (.int .u8 ct) .nil = .agg [.lit (.int .i64 ch), ds]) : ChIs W ct ch := by
  rw [MakeChecks.laidMetH_plain _ _ _ (by kernel_rfl)] at h
  obtain ⟨ps, ⟨g0, t0, cs0, f0, p0, q0, hg0, ht0, hv0, hd0, _, _⟩, _, _⟩ := h
  obtain rfl := Option.some.inj (gTypes.symm.trans hg0)
  obtain rfl := Option.some.inj (tTypes.symm.trans ht0)
  rcases open_map Tryd.underlying61 hd0 with ⟨_, hx⟩ | ⟨bm, es, clock, m, rfl, hcs, hb, _, F, hx⟩
  · simp [Rows.laid_example_com_pred5_pred5_colorTypes] at hx
  simp only [Prod.mk.injEq] at hx
  have hcell : W.cell? ⟨0, 0, none⟩ = some (.map (some bm)) := by
    have := World.var?_cell hg0 hv0 0
    rw [Array.eq_one_of_toList hcs] at this
    simpa using this
  have hkey := Go.Maps.keyOf_int_mk Tryd.underlying31 hct
  -- the one entry that bears the key
  have look : ∀ w' : World, w'.heap[bm]? = W.heap[bm]? → ∃ e0 dv, e0 ∈ es.toList ∧ e0.key = .int .u8 ct ∧ e0.val = .agg #[.int .i64 ch, dv] ∧ (Instr.lookup 61 (.map (some bm)) (.int .u8 ct) false).run Tryd.prog w' = .ok e0.val w' := by
    intro w' hw'
    rcases Go.Maps.fit_look (w := w') false keyed31 Tryd.underlying61 (zero60 w') (hw'.trans hb) F hkey with ⟨_, _, hat⟩ | ⟨e0, y, hm, hk, hrun, hR, hat, _⟩
    · have := hat .nil
      rw [← hx.1, hat0] at this
      cases this
    · have h1 := hat .nil
      rw [← hx.1, hat0] at h1
      unfold elemAt at hR
      split at hR
      · rename_i hf
        obtain ⟨y0, y1, n, hy, hlen, ht1, _⟩ := trod_struct2 Tryd.underlying60 hR
        rw [hy] at h1
        simp only [DataW.agg.injEq, List.cons.injEq] at h1
        obtain ⟨k, e1, e2, _⟩ := DataW.trod_int Tryd.underlying3 ht1
        rw [e2] at h1
        have hkk : ch = k := by simpa using h1.1
        subst hkk
        rw [cells60] at hlen
        rw [cells3] at e1
        cases hv : e0.val with
        | agg cs =>
          rw [hv] at hlen e1
          obtain ⟨l⟩ := cs
          match l, hlen, e1 with
          | [c0, c1], _, e1 =>
            simp [Value.cells] at e1
            subst e1
            exact ⟨e0, c1, hm, hk, hv, hrun⟩
          | [], hlen, _ => simp [Value.cells] at hlen
          | [_], hlen, _ => simp [Value.cells] at hlen
          | _ :: _ :: _ :: _, hlen, _ => simp [Value.cells] at hlen
        | _ =>
          rw [hv] at hf
          simp [Value.formed, Tryd.underlying60] at hf
      · cases hR
  obtain ⟨e0, dv, hm0, hk0, hv0', _⟩ := look W rfl
  refine ⟨bm, dv, hcell, (Array.getElem?_eq_some_iff.1 hb).1, fun w' hw' => ?_⟩
  obtain ⟨e1, dv1, hm1, hk1, _, hrun⟩ := look w' hw'
  have he : e1 = e0 := by
    refine pair_inj (rg Tryd.prog 31 _) (·.1) es.toList (Go.Maps.fit_apart keyed31 F) e1 hm1 e0 hm0 ?_
    obtain ⟨z1, hz1⟩ := F.reads e1 hm1
    obtain ⟨z0, hz0⟩ := F.reads e0 hm0
    have k1 := rd_key hz1
    have k0 := rd_key hz0
    rw [hk1] at k1
    rw [hk0] at k0
    rw [rg_of hz1, rg_of hz0]
    exact Option.some.inj (k1.symm.trans k0)
  rw [hrun, he, hv0']

theorem chis_of {W : World} (h : laidMetH Tryd.prog laid1 W) (ct d ch : Int) (V : Valid ct d ch) : ChIs W ct ch := by
  unfold Valid at V
  rcases V with ⟨rfl, rfl, _⟩ | ⟨rfl, rfl, _⟩ | ⟨rfl, rfl, _⟩ | ⟨rfl, rfl, _⟩ | ⟨rfl, rfl, _⟩
  · exact of_laid h 0 1 (by decide) _ rfl
  · exact of_laid h 2 3 (by decide) _ rfl
  · exact of_laid h 3 1 (by decide) _ rfl
  · exact of_laid h 4 2 (by decide) _ rfl
  · exact of_laid h 6 4 (by decide) _ rfl

/-- The door's own heap meets the condition. -/
theorem door_met (os : Os) (args : Array Value) : laidMetH Tryd.prog laid1 ((World.doorLaid Tryd.prog 400 os).forCall (fun _ _ => 0) ⟨#[], args, []⟩).memory :=
  laidMetH_of_parts3 (fuel := 8) (laidMet_of_run' 8 (by kernel_rfl) (by kernel_rfl)) (by kernel_rfl) (by kernel_rfl)

end Go.Proofs.Qxb6612991aDoorRR
