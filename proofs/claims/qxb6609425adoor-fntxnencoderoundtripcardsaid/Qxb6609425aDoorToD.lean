/-
  Seat Qxb6609425aDoor: toTxn, at every depth.
-/
import Derived.Test.Qxb6609425aDoorToB
import Derived.Test.Qxb6609425aDoorLaw
namespace Go.Proofs.Qxb6609425aDoor
open Go.RowKit
set_option linter.unusedVariables false
set_option linter.unusedSimpArgs false

theorem OpRow.sl {W w : World} {v : Value} {l : List Tx} (h : OpRow W w v l) : IsSl v := by
  rcases h with ⟨h, _⟩ | ⟨x, c, bs, h, _⟩
  · exact ⟨_, _, _, h⟩
  · exact ⟨_, _, _, h⟩

/-- toTxn: the same change, its lists copied. -/
theorem to_any (W : World) : ∀ (m : Nat) (cs : Array Value) (t : Tx), TxIn W m cs t → wt m t ≤ 1048576 → ∀ (w : World), Below W.heap.size W w →
    Calls Tryd.prog 8 #[.agg cs] w fun e w' => ∃ dv av pv ov kv, e = .returned (.agg (cells t.head dv av pv ov kv)) ∧ BytesIn W dv t.head.fs.data ∧ AclRow w' av t.head.fs.acl ∧ BytesIn W pv t.head.fs.pw ∧ OpRow W w' ov t.ops ∧ IsSl kv ∧ Below w.heap.size w w' := by
  intro m
  induction m with
  | zero => intro cs t h; exact h.elim
  | succ m ih =>
    intro cs t hT hw w hW
    have hS := hT.small hw
    have hh := hT.head_le
    have ho := ops_le t m
    obtain ⟨dv, av, pv, ov, kv, css, rfl, ⟨_, hL, hol⟩, h3, h4, h5, h6, h7, h8, h9⟩ := hT
    obtain ⟨h, ops⟩ := t
    obtain ⟨da, dc, rfl⟩ := h3.len
    obtain ⟨aa, ac, rfl⟩ := h4.len
    obtain ⟨pa, pc, rfl⟩ := h5.len
    obtain ⟨oa, oc, rfl⟩ := h6.len
    obtain ⟨ka, kc, rfl⟩ := h7.len
    rw [h8] at h6 ⊢
    have hk : h.ask.length ≤ 1048576 := by
      have e : wHead h ≤ 1048576 := Nat.le_trans hh hw
      unfold wHead at e
      omega
    refine (to_step m W h ops hS.acl hk (Nat.le_trans ho hw) da aa pa oa ka dc ac pc oc kc css h4 h7 h6 h8 (fun i hi => (h9 i hi).size) (fun i hi w' hW' => ?_) w hW).mono ?_
    · refine (ih _ _ (h9 i hi) (Nat.le_trans (op_wt m (.mk h ops) i hi) hw) w' hW').mono ?_
      rintro e w2 ⟨dv, av, pv, ov, kv, rfl, g1, g2, g3, g4, g5, g6⟩
      exact ⟨dv, av, pv, ov, kv, rfl, g1, g2, g3, g4.sl, g5, g6⟩
    · rintro e w2 ⟨av, ov, kv, rfl, g1, g2, g3, g4⟩
      exact ⟨_, av, _, ov, kv, rfl, h3, g1, h5, g2, g3, g4⟩

end Go.Proofs.Qxb6609425aDoor
