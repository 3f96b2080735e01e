/-
  Seat Qxb6609425aDoor: FnTxnEncodeRoundTrip: the walk.
-/
import Derived.Test.Qxb6609425aDoorToD
import Derived.Deep.RegionWith
import Derived.Deep.DeepCutAuto
namespace Go.Proofs.Qxb6609425aDoor
open Go.RowKit
set_option linter.unusedVariables false
set_option linter.unusedSimpArgs false

theorem dlongU_any {w : World} {D : Nat} (x : Int) (h0 : 0 ≤ x) (h1 : x < 18446744073709551616) (rest : List UInt8) (H : DecS w D (be8 x ++ rest)) (hl : 8 + rest.length ≤ 140737488355328) :
    Calls Tryd.prog 11 #[.pointer (some ⟨D, 0, none⟩)] w fun e w' => e = .returned (.int .u64 x) ∧ DecS w' D rest ∧ w.grownBy w' (some D) := by
  have h := dlong_any x rest H hl
  rw [Int.emod_eq_of_lt h0 h1] at h
  exact h

theorem TxIn.top {W : World} {m : Nat} {cs : Array Value} {t : Tx} (H : TxIn W m cs t) : ∃ (da aa pa oa ka : Option Addr) (dc ac pc oc kc ol : Nat), cs = cells t.head (.slice da (wBuf t.head.fs.data) dc) (.slice aa t.head.fs.acl.length ac) (.slice pa (wBuf t.head.fs.pw) pc) (.slice oa ol oc) (.slice ka t.head.ask.length kc) ∧ Fits t.head ∧
    BytesIn W (.slice da (wBuf t.head.fs.data) dc) t.head.fs.data ∧ AclsIn W (.slice aa t.head.fs.acl.length ac) t.head.fs.acl ∧ BytesIn W (.slice pa (wBuf t.head.fs.pw) pc) t.head.fs.pw := by
  cases m with
  | zero => exact H.elim
  | succ m =>
    obtain ⟨dv, av, pv, ov, kv, css, rfl, ⟨hF, _, _⟩, h3, h4, h5, h6, h7, _, _⟩ := H
    obtain ⟨da, dc, rfl⟩ := h3.len
    obtain ⟨aa, ac, rfl⟩ := h4.len
    obtain ⟨pa, pc, rfl⟩ := h5.len
    obtain ⟨oa, oc, rfl⟩ := h6.len
    obtain ⟨ka, kc, rfl⟩ := h7.len
    exact ⟨da, aa, pa, oa, ka, dc, ac, pc, oc, kc, _, rfl, hF, h3, h4, h5⟩

theorem box_cells {w : World} {b : Nat} {v0 v1 v2 v3 v4 v5 v6 v7 v8 v9 v10 v11 v12 v13 : Value} (H : w.heap[b]? = some (.cells #[v0, v1, v2, v3, v4, v5, v6, v7, v8, v9, v10, v11, v12, v13] 28)) : w.cell? ⟨b, 0, none⟩ = some v0 ∧ w.cell? ⟨b, 1, none⟩ = some v1 ∧ w.cell? ⟨b, 2, none⟩ = some v2 ∧ w.cell? ⟨b, 3, none⟩ = some v3 ∧ w.cell? ⟨b, 4, none⟩ = some v4 ∧ w.cell? ⟨b, 5, none⟩ = some v5 ∧ w.cell? ⟨b, 6, none⟩ = some v6 ∧ w.cell? ⟨b, 7, none⟩ = some v7 ∧ w.cell? ⟨b, 8, none⟩ = some v8 ∧ w.cell? ⟨b, 9, none⟩ = some v9 ∧ w.cell? ⟨b, 10, none⟩ = some v10 ∧ w.cell? ⟨b, 11, none⟩ = some v11 ∧ w.cell? ⟨b, 12, none⟩ = some v12 ∧ w.cell? ⟨b, 13, none⟩ = some v13 :=
  ⟨cell_in H 0 _ rfl, cell_in H 1 _ rfl, cell_in H 2 _ rfl, cell_in H 3 _ rfl, cell_in H 4 _ rfl, cell_in H 5 _ rfl, cell_in H 6 _ rfl, cell_in H 7 _ rfl, cell_in H 8 _ rfl, cell_in H 9 _ rfl, cell_in H 10 _ rfl, cell_in H 11 _ rfl, cell_in H 12 _ rfl, cell_in H 13 _ rfl⟩

set_option maxRecDepth 100000 in
set_option maxHeartbeats 6400000 in
theorem walk_step (m : Nat) (W : World) (h : Head) (ops : List Tx) (da aa pa oa ka : Option Addr) (dc ac pc oc kc : Nat) (css : List (Array Value)) (hT : TxIn W (m + 1) #[.int .u64 h.zx, .int .i64 h.tm, .int .i32 h.fs.op, .string h.fs.path, .slice da (wBuf h.fs.data) dc, .slice aa h.fs.acl.length ac, .int .i32 h.fs.ver, .int .i64 h.fs.ses, .int .i32 h.fs.tmo, .slice pa (wBuf h.fs.pw) pc, .slice oa ops.length oc, .bool h.seq, .slice ka h.ask.length kc, .int .i64 h.ases] (.mk h ops)) (F : Fits h)
    (hd : BytesIn W (.slice da (wBuf h.fs.data) dc) h.fs.data) (hA : AclsIn W (.slice aa h.fs.acl.length ac) h.fs.acl) (hP : BytesIn W (.slice pa (wBuf h.fs.pw) pc) h.fs.pw)
    (hO : OpsIn W (.slice oa ops.length oc) css) (hcs : css.length = ops.length) (h9 : ∀ i, i < ops.length → TxIn W m (css.getD i #[]) (ops.getD i default))
    (qa : Option Addr) (qc : Nat) (o : Option (List UInt8)) (hq : BytesIn W (.slice qa (wBuf o) qc) o) (hql : wBuf o ≤ 9223372036854775807) (req : Bool) :
    Calls Tryd.prog 3 #[.agg #[.int .u64 h.zx, .int .i64 h.tm, .int .i32 h.fs.op, .string h.fs.path, .slice da (wBuf h.fs.data) dc, .slice aa h.fs.acl.length ac, .int .i32 h.fs.ver, .int .i64 h.fs.ses, .int .i32 h.fs.tmo, .slice pa (wBuf h.fs.pw) pc, .slice oa ops.length oc, .bool h.seq, .slice ka h.ask.length kc, .int .i64 h.ases], .slice qa (wBuf o) qc, .bool req] W fun e w' => e = .returned (.bool true) ∧ Below W.heap.size W w' := by
  have HT := Hid.mk (And.intro hT (And.intro F (And.intro hd (And.intro hA hP))))
  have HO := Hid.mk (And.intro hO (And.intro hcs h9))
  have HQ := Hid.mk hq
  clear hT F hd hA hP hO hcs h9 hq
  have H0 : Hid (Below W.heap.size W (W.alloc (.cells #[.int .u64 h.zx, .int .i64 h.tm, .int .i32 h.fs.op, .string h.fs.path, .slice da (wBuf h.fs.data) dc, .slice aa h.fs.acl.length ac, .int .i32 h.fs.ver, .int .i64 h.fs.ses, .int .i32 h.fs.tmo, .slice pa (wBuf h.fs.pw) pc, .slice oa ops.length oc, .bool h.seq, .slice ka h.ask.length kc, .int .i64 h.ases] 28)) ∧ (W.alloc (.cells #[.int .u64 h.zx, .int .i64 h.tm, .int .i32 h.fs.op, .string h.fs.path, .slice da (wBuf h.fs.data) dc, .slice aa h.fs.acl.length ac, .int .i32 h.fs.ver, .int .i64 h.fs.ses, .int .i32 h.fs.tmo, .slice pa (wBuf h.fs.pw) pc, .slice oa ops.length oc, .bool h.seq, .slice ka h.ask.length kc, .int .i64 h.ases] 28)).heap[W.heap.size]? = some (.cells #[.int .u64 h.zx, .int .i64 h.tm, .int .i32 h.fs.op, .string h.fs.path, .slice da (wBuf h.fs.data) dc, .slice aa h.fs.acl.length ac, .int .i32 h.fs.ver, .int .i64 h.fs.ses, .int .i32 h.fs.tmo, .slice pa (wBuf h.fs.pw) pc, .slice oa ops.length oc, .bool h.seq, .slice ka h.ask.length kc, .int .i64 h.ases] 28)) := ⟨(Below.refl _ W).alloc (Nat.le_refl _) _, heap_new _ _⟩
  go_enter Tryd.func3, Tryd.ntmps3
  by_cases hbig : 1048576 < wBuf o
  · go_wp2_with fail
    go_ret
    exact ⟨rfl, H0.out.1⟩
  · go_wp2_with fail
    have hbl : wBuf o ≤ 1048577 := by omega
    generalize W.alloc (.cells #[.int .u64 h.zx, .int .i64 h.tm, .int .i32 h.fs.op, .string h.fs.path, .slice da (wBuf h.fs.data) dc, .slice aa h.fs.acl.length ac, .int .i32 h.fs.ver, .int .i64 h.fs.ses, .int .i32 h.fs.tmo, .slice pa (wBuf h.fs.pw) pc, .slice oa ops.length oc, .bool h.seq, .slice ka h.ask.length kc, .int .i64 h.ases] 28) = w0 at H0 ⊢
    obtain ⟨b, hb⟩ : ∃ b, b = W.heap.size := ⟨_, rfl⟩
    have HBG : Hid (W.heap.size ≤ b) := Nat.le_of_eq hb.symm
    rw [← hb] at ⊢
    have H1 : Hid (Below W.heap.size W w0 ∧ w0.heap[b]? = some (.cells #[.int .u64 h.zx, .int .i64 h.tm, .int .i32 h.fs.op, .string h.fs.path, .slice da (wBuf h.fs.data) dc, .slice aa h.fs.acl.length ac, .int .i32 h.fs.ver, .int .i64 h.fs.ses, .int .i32 h.fs.tmo, .slice pa (wBuf h.fs.pw) pc, .slice oa ops.length oc, .bool h.seq, .slice ka h.ask.length kc, .int .i64 h.ases] 28)) := by rw [hb]; exact H0
    clear hb H0
    refine (bytes_any W (m + 1) _ _ HT.out.1 (wBuf o) w0 hbl H1.out.1).mono ?_
    rintro e w1 ⟨rfl, hb1⟩
    have H2 : Hid (Below W.heap.size W w1 ∧ w1.heap[b]? = some (.cells #[.int .u64 h.zx, .int .i64 h.tm, .int .i32 h.fs.op, .string h.fs.path, .slice da (wBuf h.fs.data) dc, .slice aa h.fs.acl.length ac, .int .i32 h.fs.ver, .int .i64 h.fs.ses, .int .i32 h.fs.tmo, .slice pa (wBuf h.fs.pw) pc, .slice oa ops.length oc, .bool h.seq, .slice ka h.ask.length kc, .int .i64 h.ases] 28)) := ⟨H1.out.1.trans (hb1.mono H1.out.1.size), (hb1.block b (Array.getElem?_eq_some_iff.1 H1.out.2).1).trans H1.out.2⟩
    clear H1 hb1
    by_cases hst : 1048576 < sat (wBuf o + wt (m + 1) (.mk h ops))
    · go_wp2_with fail
      go_ret
      exact ⟨rfl, H2.out.1⟩
    · have HWT : Hid (wBuf o + wt (m + 1) (.mk h ops) ≤ 1048576) := (sat_small (by omega)).1
      go_wp2_with fail
      clear hst hbl
      have hol : wBuf o ≤ 1048576 := by omega
      refine (clone_any H2.out.1 _ o HQ.out hol).mono ?_
      rintro e w2 ⟨v', rfl, hOw, ⟨va, vl, vc, rfl⟩, hb2⟩
      have H3 : Hid (Own w2 W.heap.size (.slice va vl vc) (byt o) ∧ Below W.heap.size W w2 ∧ w2.heap[b]? = some (.cells #[.int .u64 h.zx, .int .i64 h.tm, .int .i32 h.fs.op, .string h.fs.path, .slice da (wBuf h.fs.data) dc, .slice aa h.fs.acl.length ac, .int .i32 h.fs.ver, .int .i64 h.fs.ses, .int .i32 h.fs.tmo, .slice pa (wBuf h.fs.pw) pc, .slice oa ops.length oc, .bool h.seq, .slice ka h.ask.length kc, .int .i64 h.ases] 28)) := ⟨hOw, H2.out.1.trans (hb2.mono H2.out.1.size), (hb2.block b (Array.getElem?_eq_some_iff.1 H2.out.2).1).trans H2.out.2⟩
      clear H2 hOw hb2
      go_wp2_with fail
      refine (newEnc_any w2 W.heap.size H3.out.2.1.size _ ⟨_, _, _, rfl⟩ (byt o) H3.out.1).mono ?_
      rintro e w3 ⟨E, rfl, hE, hb3⟩
      have H4 : Hid (EncS w3 E W.heap.size (byt o) ∧ Below W.heap.size W w3 ∧ w3.heap[b]? = some (.cells #[.int .u64 h.zx, .int .i64 h.tm, .int .i32 h.fs.op, .string h.fs.path, .slice da (wBuf h.fs.data) dc, .slice aa h.fs.acl.length ac, .int .i32 h.fs.ver, .int .i64 h.fs.ses, .int .i32 h.fs.tmo, .slice pa (wBuf h.fs.pw) pc, .slice oa ops.length oc, .bool h.seq, .slice ka h.ask.length kc, .int .i64 h.ases] 28)) := ⟨hE, H3.out.2.1.trans (hb3.mono H3.out.2.1.size), (hb3.block b (Array.getElem?_eq_some_iff.1 H3.out.2.2).1).trans H3.out.2.2⟩
      clear H3 hE hb3
      obtain ⟨d0, d1, d2, d3, d4, d5, d6, d7, d8, d9, d10, d11, d12, d13⟩ := box_cells H4.out.2.2
      go_wp2_with fail
      clear d0 d1 d2 d3 d4 d5 d6 d7 d8 d9 d10 d11 d12 d13
      refine (to_any W (m + 1) _ _ HT.out.1 (by have := HWT.out; omega) w3 H4.out.2.1).mono ?_
      rintro e w4 ⟨dv, av, pv, ov, kv, rfl, g1, g2, g3, g4, g5, hb4⟩
      have H5 : Hid ((EncS w4 E W.heap.size (byt o) ∧ Below W.heap.size W w4 ∧ w4.heap[b]? = some (.cells #[.int .u64 h.zx, .int .i64 h.tm, .int .i32 h.fs.op, .string h.fs.path, .slice da (wBuf h.fs.data) dc, .slice aa h.fs.acl.length ac, .int .i32 h.fs.ver, .int .i64 h.fs.ses, .int .i32 h.fs.tmo, .slice pa (wBuf h.fs.pw) pc, .slice oa ops.length oc, .bool h.seq, .slice ka h.ask.length kc, .int .i64 h.ases] 28)) ∧ BytesIn W dv h.fs.data ∧ AclRow w4 av h.fs.acl ∧ BytesIn W pv h.fs.pw ∧ OpRow W w4 ov ops) :=
        ⟨⟨H4.out.1.below hb4, H4.out.2.1.trans (hb4.mono H4.out.2.1.size), (hb4.block b (Array.getElem?_eq_some_iff.1 H4.out.2.2).1).trans H4.out.2.2⟩, g1, g2, g3, g4⟩
      clear H4 g1 g2 g3 g4 g5 hb4
      have HS : Hid (SmallF h.fs ∧ (∀ t ∈ ops, SmallF t.head.fs) ∧ ops.length ≤ 1048576 ∧ (encTop req (.mk h ops)).length ≤ 1048636) := by
        have hw := HWT.out
        have hw' : wt (m + 1) (.mk h ops) ≤ 1048576 := by omega
        refine ⟨HT.out.1.small hw', fun t ht => ?_, Nat.le_trans (ops_le (.mk h ops) m) hw', Nat.le_trans (top_len HT.out.1 req) (by omega)⟩
        obtain ⟨i, hi, rfl⟩ := mem_getD ops t ht
        exact (HO.out.2.2 i hi).small (Nat.le_trans (op_wt m (.mk h ops) i hi) hw')
      go_wp2_with fail
      refine (zzenc_any H5.out.1.1 H5.out.1.2.1 req h ops HT.out.2.1 dv av pv ov kv HS.out.1 HS.out.2.1 HS.out.2.2.1 H5.out.2.1 H5.out.2.2.1 H5.out.2.2.2.1 H5.out.2.2.2.2 (by have := HS.out.2.2.2; have := byt_len o; omega)).mono ?_
      rintro e w5 ⟨rfl, hE, hK⟩
      have H6 : Hid (EncS w5 E W.heap.size (byt o ++ encTop req (.mk h ops)) ∧ Below W.heap.size W w5 ∧ w5.heap[b]? = some (.cells #[.int .u64 h.zx, .int .i64 h.tm, .int .i32 h.fs.op, .string h.fs.path, .slice da (wBuf h.fs.data) dc, .slice aa h.fs.acl.length ac, .int .i32 h.fs.ver, .int .i64 h.fs.ses, .int .i32 h.fs.tmo, .slice pa (wBuf h.fs.pw) pc, .slice oa ops.length oc, .bool h.seq, .slice ka h.ask.length kc, .int .i64 h.ases] 28)) :=
        ⟨hE, H5.out.1.2.1.trans (hK.toBelow H5.out.1.2.1.size), kept_row H5.out.1.1 hK H5.out.1.2.2 (by decide) (by decide)⟩
      clear H5 hE hK
      go_wp2_with fail
      refine (encBytes_any H6.out.1).mono ?_
      rintro e w6 ⟨v, rfl, hOw, rfl⟩
      obtain ⟨g, cap, rfl⟩ := rows_form hOw (by have := top_pos req (.mk h ops); rw [List.length_append]; omega)
      obtain ⟨L, hL⟩ : ∃ L, L = (encTop req (.mk h ops)).length := ⟨_, rfl⟩
      have HL : Hid (L = (encTop req (.mk h ops)).length) := hL
      have hlen : (byt o ++ encTop req (.mk h ops)).length = wBuf o + L := by rw [List.length_append, byt_len, hL]
      have hL0 : 52 ≤ L := by rw [hL]; exact top_pos req (.mk h ops)
      have hL1 : L ≤ 1048636 := by rw [hL]; exact HS.out.2.2.2
      have HR := Hid.mk hOw.cell
      rw [hlen] at HR ⊢
      have H7 : Hid (Below W.heap.size W w5 ∧ w5.heap[b]? = some (.cells #[.int .u64 h.zx, .int .i64 h.tm, .int .i32 h.fs.op, .string h.fs.path, .slice da (wBuf h.fs.data) dc, .slice aa h.fs.acl.length ac, .int .i32 h.fs.ver, .int .i64 h.fs.ses, .int .i32 h.fs.tmo, .slice pa (wBuf h.fs.pw) pc, .slice oa ops.length oc, .bool h.seq, .slice ka h.ask.length kc, .int .i64 h.ases] 28)) := H6.out.2
      clear H6 hOw hlen hL
      have HP : Hid (∀ k, k < wBuf o → ∃ x z, qa = some x ∧ w5.cell? (x.add k) = some (.int .u8 z) ∧ w5.cell? ⟨g, k, none⟩ = some (.int .u8 z)) := by
        intro k hk
        obtain ⟨_, _, _, arr, r1, _, r2⟩ := HR.out
        rcases HQ.out with ⟨e0, e1⟩ | ⟨x, c, bs, e0, e1, hx⟩
        · rw [e1] at hk
          exact absurd hk (Nat.not_lt_zero _)
        · have hkl : k < bs.length := by rw [e1] at hk; exact hk
          injection e0 with i1
          refine ⟨x, ((bs.getD k 0).toNat : Int), i1, below_cells H7.out.1 _ _ (hx k hkl), ?_⟩
          have h2 := r2 k (by omega)
          rw [e1] at h2
          rw [show byt (some bs) = bs from rfl, getD_left _ _ _ hkl] at h2
          exact cell_in r1 k _ h2
      go_wp2_with fail
      go_loopw [10] (fun t wr => ∃ k n : Nat, k ≤ wBuf o ∧ t = .int .i64 k ∧ wr = w5.drewN n) (fun t _ => wBuf o - (intOf t).toNat)
      case atStart => exact ⟨0, 0, Nat.zero_le _, rfl, rfl⟩
      case round =>
        obtain ⟨k, n, hk, rfl, rfl⟩ := hrel
        by_cases hlt : k < wBuf o
        · have hlt' : (k : Int) < (wBuf o : Int) := by omega
          have hlt2 : (k : Int) < ((wBuf o + L : Nat) : Int) := by omega
          obtain ⟨x, z, rfl, cx, cy⟩ := HP.out k hlt
          go_wp2_with fail
          go_quiet (fail)
          go_wp2_with fail
          exact ⟨⟨k + 1, _, by omega, by go_num, rfl⟩, by simp [intOf]; omega⟩
        · have hke : k = wBuf o := by omega
          subst hke
          have H8 : Hid (Below W.heap.size W (w5.drewN n) ∧ (w5.drewN n).heap[b]? = some (.cells #[.int .u64 h.zx, .int .i64 h.tm, .int .i32 h.fs.op, .string h.fs.path, .slice da (wBuf h.fs.data) dc, .slice aa h.fs.acl.length ac, .int .i32 h.fs.ver, .int .i64 h.fs.ses, .int .i32 h.fs.tmo, .slice pa (wBuf h.fs.pw) pc, .slice oa ops.length oc, .bool h.seq, .slice ka h.ask.length kc, .int .i64 h.ases] 28)) := ⟨below_drewN H7.out.1 n, H7.out.2⟩
          have HR2 : Hid (∃ arr, (w5.drewN n).heap[g]? = some (.cells arr 5) ∧ W.heap.size ≤ g ∧ ∀ i, i < wBuf o + L → arr[i]? = some (bv ((byt o ++ encTop req (.mk h ops)).getD i 0))) := HR.out.2.2.2
          have hcap : wBuf o + L ≤ cap := HR.out.2.1
          have hcap0 : ¬ (cap - wBuf o = 0) := by omega
          clear HR H7 HP
          generalize w5.drewN n = w7 at H8 HR2 ⊢
          go_wp2_with fail
          refine (newDec_any w7 (some ⟨g, wBuf o, none⟩) L (cap - wBuf o)).mono ?_
          rintro e w8 ⟨rfl, hw8⟩
          have H9 : Hid ((DecS w8 w7.heap.size (be8 h.zx ++ (be8 h.tm ++ (encFields h.fs ++ encOps req (.mk h ops)))) ∧ Below W.heap.size W w8 ∧ w8.heap[b]? = some (.cells #[.int .u64 h.zx, .int .i64 h.tm, .int .i32 h.fs.op, .string h.fs.path, .slice da (wBuf h.fs.data) dc, .slice aa h.fs.acl.length ac, .int .i32 h.fs.ver, .int .i64 h.fs.ses, .int .i32 h.fs.tmo, .slice pa (wBuf h.fs.pw) pc, .slice oa ops.length oc, .bool h.seq, .slice ka h.ask.length kc, .int .i64 h.ases] 28)) ∧ W.heap.size ≤ w7.heap.size ∧ b ≠ w7.heap.size) := by
            obtain ⟨arr, r1, r2, r3⟩ := HR2.out
            have hbl : b < w7.heap.size := (Array.getElem?_eq_some_iff.1 H8.out.2).1
            have hgl : g < w7.heap.size := (Array.getElem?_eq_some_iff.1 r1).1
            rw [← hw8]
            refine ⟨⟨⟨g, wBuf o, cap - wBuf o, arr, (0, 0), ?_, (Below.heap_alloc _ _ _ hgl).trans r1, fun i hi => ?_, ?_⟩, H8.out.1.alloc H8.out.1.size _, (Below.heap_alloc _ _ _ hbl).trans H8.out.2⟩, H8.out.1.size, by omega⟩
            · rw [heap_new, HL.out]
              rfl
            · have hi' : i < L := by rw [HL.out]; exact hi
              have h1 := r3 (wBuf o + i) (by omega)
              rw [← byt_len o, getD_right] at h1
              rw [← byt_len o]
              exact h1
            · have : (encTop req (.mk h ops)).length ≤ cap - wBuf o := by rw [← HL.out]; omega
              exact this
          clear hw8 H8 HR2 hcap hcap0
          obtain ⟨D, hD⟩ : ∃ D, D = w7.heap.size := ⟨_, rfl⟩
          rw [← hD] at H9 ⊢
          clear hD
          have HLim : Hid (8 + (be8 h.tm ++ (encFields h.fs ++ encOps req (.mk h ops))).length ≤ 140737488355328) := by
            have e : (encTop req (.mk h ops)).length = 8 + (be8 h.tm ++ (encFields h.fs ++ encOps req (.mk h ops))).length := by
              show (be8 h.zx ++ (be8 h.tm ++ (encFields h.fs ++ encOps req (.mk h ops)))).length = _
              rw [List.length_append, be8_length]
            have := HL.out
            unfold Hid
            omega
          have d0 : w8.cell? ⟨b, 0, none⟩ = some (.int .u64 h.zx) := (box_cells H9.out.1.2.2).1
          go_wp2_with fail
          have HC9 : Hid (Calls Tryd.prog 11 #[.pointer (some ⟨D, 0, none⟩)] w8.drew fun e w' => e = .returned (.int .u64 h.zx) ∧ (DecS w' D (be8 h.tm ++ (encFields h.fs ++ encOps req (.mk h ops))) ∧ Below W.heap.size W w' ∧ w'.heap[b]? = some (.cells #[.int .u64 h.zx, .int .i64 h.tm, .int .i32 h.fs.op, .string h.fs.path, .slice da (wBuf h.fs.data) dc, .slice aa h.fs.acl.length ac, .int .i32 h.fs.ver, .int .i64 h.fs.ses, .int .i32 h.fs.tmo, .slice pa (wBuf h.fs.pw) pc, .slice oa ops.length oc, .bool h.seq, .slice ka h.ask.length kc, .int .i64 h.ases] 28))) := by
            refine (dlongU_any (w := w8.drew) h.zx HT.out.2.1.zx0 HT.out.2.1.zx1 (be8 h.tm ++ (encFields h.fs ++ encOps req (.mk h ops))) H9.out.1.1 HLim.out).mono ?_
            rintro e w9 ⟨rfl, hD9, hG9⟩
            exact ⟨rfl, hD9, grown_W (below_drewN H9.out.1.2.1 1) H9.out.2.1 hG9, grown_row (w := w8.drew) H9.out.1.2.2 H9.out.2.2 hG9⟩
          go_cut [12] (fun v wd => Hid (v = .bool true ∧ (DecS wd D (be8 h.tm ++ (encFields h.fs ++ encOps req (.mk h ops))) ∧ Below W.heap.size W wd ∧ wd.heap[b]? = some (.cells #[.int .u64 h.zx, .int .i64 h.tm, .int .i32 h.fs.op, .string h.fs.path, .slice da (wBuf h.fs.data) dc, .slice aa h.fs.acl.length ac, .int .i32 h.fs.ver, .int .i64 h.fs.ses, .int .i32 h.fs.tmo, .slice pa (wBuf h.fs.pw) pc, .slice oa ops.length oc, .bool h.seq, .slice ka h.ask.length kc, .int .i64 h.ases] 28))))
          case first =>
            go_region_with (first
              | (go_at_call 11; go_loud (refine HC9.out.mono ?_; rintro e w9 ⟨rfl, hG9⟩; have HG := Hid.mk hG9; clear hG9; have d0' : w9.cell? ⟨b, 0, none⟩ = some (.int .u64 h.zx) := (box_cells HG.out.2.2).1)))
            all_goals
              go_wp2_with fail
              go_meet
              case rel => exact ⟨by simp, HG.out⟩
          case rest =>
            obtain ⟨rfl, hcut2⟩ := hcut.out
            have H10 := Hid.mk hcut2
            have HK := H9.out.2
            have HDD : Hid (W.heap.size ≤ D ∧ b ≠ D) := HK
            clear hcut hcut2 HK H9 HC9 d0
            obtain ⟨w9, hw9⟩ : ∃ x, x = wc := ⟨_, rfl⟩
            subst hw9
            go_wp2_with fail
            have HLim2 : Hid (8 + (encFields h.fs ++ encOps req (.mk h ops)).length ≤ 140737488355328) := by
              have := HLim.out
              rw [List.length_append, be8_length] at this
              unfold Hid
              omega
            refine (dlong_any h.tm (encFields h.fs ++ encOps req (.mk h ops)) H10.out.1 HLim2.out).mono ?_
            rintro e w10 ⟨rfl, hD, hG⟩
            have H11 : Hid (DecS w10 D (encFields h.fs ++ encOps req (.mk h ops)) ∧ Below W.heap.size W w10 ∧ w10.heap[b]? = some (.cells #[.int .u64 h.zx, .int .i64 h.tm, .int .i32 h.fs.op, .string h.fs.path, .slice da (wBuf h.fs.data) dc, .slice aa h.fs.acl.length ac, .int .i32 h.fs.ver, .int .i64 h.fs.ses, .int .i32 h.fs.tmo, .slice pa (wBuf h.fs.pw) pc, .slice oa ops.length oc, .bool h.seq, .slice ka h.ask.length kc, .int .i64 h.ases] 28)) := ⟨hD, grown_W H10.out.2.1 HDD.out.1 hG, grown_row H10.out.2.2 HDD.out.2 hG⟩
            obtain ⟨T, hT⟩ : ∃ T, T = h.tm % 18446744073709551616 := ⟨_, rfl⟩
            rw [← hT]
            have hwr : IntKind.i64.wrap T = h.tm := by
              have h0 := HT.out.2.1.tm0
              have h1 := HT.out.2.1.tm1
              simp only [IntKind.wrap, IntKind.bits, IntKind.signed]
              simp
              omega
            clear H10 hD hG hT
            obtain ⟨d0, d1, d2, d3, d4, d5, d6, d7, d8, d9, d10, d11, d12, d13⟩ := box_cells H11.out.2.2
            go_wp2_with fail
            clear d0 d1 d2 d3 d4 d5 d6 d7 d8 d9 d10 d11 d12 d13 hwr
            have HLim3 : Hid ((encFields h.fs).length + (encOps req (.mk h ops)).length ≤ 140737488355328) := by
              have := HLim2.out
              rw [List.length_append] at this
              unfold Hid
              omega
            refine (match_any H11.out.2.1 HDD.out.1 h HT.out.2.1 HS.out.1 _ _ _ _ _ HT.out.2.2.1 HT.out.2.2.2.1 HT.out.2.2.2.2 (encOps req (.mk h ops)) H11.out.1 HLim3.out).mono ?_
            rintro e w11 ⟨rfl, hD, hG⟩
            have H12 : Hid (DecS w11 D (encOps req (.mk h ops)) ∧ Below W.heap.size W w11 ∧ w11.heap[b]? = some (.cells #[.int .u64 h.zx, .int .i64 h.tm, .int .i32 h.fs.op, .string h.fs.path, .slice da (wBuf h.fs.data) dc, .slice aa h.fs.acl.length ac, .int .i32 h.fs.ver, .int .i64 h.fs.ses, .int .i32 h.fs.tmo, .slice pa (wBuf h.fs.pw) pc, .slice oa ops.length oc, .bool h.seq, .slice ka h.ask.length kc, .int .i64 h.ases] 28)) := ⟨hD, grown_W H11.out.2.1 HDD.out.1 hG, grown_row H11.out.2.2 HDD.out.2 hG⟩
            clear H11 hD hG
            have d2 : w11.cell? ⟨b, 2, none⟩ = some (.int .i32 h.fs.op) := cell_in H12.out.2.2 2 _ rfl
            have d10 : w11.cell? ⟨b, 10, none⟩ = some (.slice oa ops.length oc) := cell_in H12.out.2.2 10 _ rfl
            cases hop : (h.fs.op == 14) with
            | false =>
              have H13 : Hid (DecS w11 D [] ∧ Below W.heap.size W w11) := by
                have h1 := H12.out.1
                unfold encOps at h1
                rw [if_neg (by simpa [Tx.head] using hop)] at h1
                exact ⟨h1, H12.out.2.1⟩
              go_wp2_with fail
              refine (err_any H13.out.1).mono ?_
              rintro e w' ⟨rfl, rfl⟩
              go_wp2_with fail
              refine (len_any H13.out.1).mono ?_
              rintro e w' ⟨rfl, rfl⟩
              go_wp2_with fail
              go_ret
              exact ⟨rfl, H13.out.2⟩
            | true =>
              have H13 : Hid (DecS w11 D (be4 (ops.length : Int) ++ ops.flatMap (encOp req)) ∧ 4 + (ops.flatMap (encOp req)).length ≤ 140737488355328) := by
                have h1 := H12.out.1
                have h2 := HLim3.out
                unfold encOps at h1 h2
                rw [if_pos (by simpa [Tx.head] using hop)] at h1 h2
                rw [List.length_append, be4_length] at h2
                refine ⟨h1, ?_⟩
                have e : (Tx.mk h ops).ops = ops := rfl
                rw [e] at h2
                omega
              go_wp2_with fail
              refine (count1_any ops.length (ops.flatMap (encOp req)) H13.out.1 HS.out.2.2.1 (by have := ops_min req ops; omega) H13.out.2).mono ?_
              rintro e w12 ⟨rfl, hD, hG⟩
              have H14 : Hid (DecS w12 D ((ops.drop 0).flatMap (encOp req)) ∧ Below W.heap.size W w12 ∧ w12.heap[b]? = some (.cells #[.int .u64 h.zx, .int .i64 h.tm, .int .i32 h.fs.op, .string h.fs.path, .slice da (wBuf h.fs.data) dc, .slice aa h.fs.acl.length ac, .int .i32 h.fs.ver, .int .i64 h.fs.ses, .int .i32 h.fs.tmo, .slice pa (wBuf h.fs.pw) pc, .slice oa ops.length oc, .bool h.seq, .slice ka h.ask.length kc, .int .i64 h.ases] 28)) := ⟨hD, grown_W H12.out.2.1 HDD.out.1 hG, grown_row H12.out.2.2 HDD.out.2 hG⟩
              have HLim4 : Hid (4 + (ops.flatMap (encOp req)).length ≤ 140737488355328) := H13.out.2
              clear H12 H13 hD hG d2 d10
              have d10 : w12.cell? ⟨b, 10, none⟩ = some (.slice oa ops.length oc) := cell_in H14.out.2.2 10 _ rfl
              go_wp2_with fail
              clear d10
              go_loopw [12, 16] (fun a t wr => ∃ k : Nat, k ≤ ops.length ∧ t = .int .i64 k ∧ a = .bool true ∧ Hid (DecS wr D ((ops.drop k).flatMap (encOp req)) ∧ Below W.heap.size W wr ∧ wr.heap[b]? = some (.cells #[.int .u64 h.zx, .int .i64 h.tm, .int .i32 h.fs.op, .string h.fs.path, .slice da (wBuf h.fs.data) dc, .slice aa h.fs.acl.length ac, .int .i32 h.fs.ver, .int .i64 h.fs.ses, .int .i32 h.fs.tmo, .slice pa (wBuf h.fs.pw) pc, .slice oa ops.length oc, .bool h.seq, .slice ka h.ask.length kc, .int .i64 h.ases] 28))) (fun a t _ => ops.length - (intOf t).toNat)
              case atStart => exact ⟨0, Nat.zero_le _, rfl, rfl, H14⟩
              case round =>
                clear H14
                obtain ⟨k, hk, rfl, rfl, HR⟩ := hrel
                have d10 : wr.cell? ⟨b, 10, none⟩ = some (.slice oa ops.length oc) := cell_in HR.out.2.2 10 _ rfl
                by_cases hlt : k < ops.length
                · have hlt' : (k : Int) < (ops.length : Int) := by omega
                  rcases HO.out.1 with ⟨e0, e1⟩ | ⟨x, c, e0, hx⟩
                  · injection e0 with _ i2 _
                    omega
                  · have hcl := HO.out.2.1
                    injection e0 with i1 i2 i3
                    subst i1
                    clear i2 i3
                    have hTk := HO.out.2.2 k hlt
                    have hSk := HS.out.2.1 (ops.getD k default) (by rw [List.getD_eq_getElem?_getD, List.getElem?_eq_getElem hlt]; exact List.getElem_mem hlt)
                    have hsz := hTk.size
                    obtain ⟨da2, aa2, pa2, oa2, ka2, dc2, ac2, pc2, oc2, kc2, ol2, ecs, F2, B1, B2, B3⟩ := hTk.top
                    have hcell : ∀ j, j < 14 → wr.cell? (x.add (k * 14 + j)) = (css.getD k #[])[j]? := fun j hj => by
                      have h1 := hx k (by omega) j hj
                      have hg : (css.getD k #[])[j]? = some ((css.getD k #[])[j]'(by omega)) := Array.getElem?_eq_getElem (by omega)
                      rw [hg] at h1 ⊢
                      exact below_cells HR.out.2.1 _ _ h1
                    rw [ecs] at hcell
                    have hD0 := HR.out.1
                    rw [drop_op req ops k hlt] at hD0
                    have hlm : (encOp req (ops.getD k default)).length + ((ops.drop (k + 1)).flatMap (encOp req)).length ≤ 140737488355328 := by
                      have h1 := drop_op_le req ops k
                      have h2 := HLim4.out
                      rw [drop_op req ops k hlt, List.length_append] at h1
                      omega
                    unfold encOp at hD0 hlm
                    obtain ⟨rst, hrst⟩ : ∃ r, r = (ops.drop (k + 1)).flatMap (encOp req) := ⟨_, rfl⟩
                    have HRS := Hid.mk hrst
                    change DecS wr D ((encFields (ops.getD k default).head.fs ++ (if req = true then [seqByte (ops.getD k default).head.seq] else [])) ++ (ops.drop (k + 1)).flatMap (encOp req)) at hD0
                    change (encFields (ops.getD k default).head.fs ++ (if req = true then [seqByte (ops.getD k default).head.seq] else [])).length + ((ops.drop (k + 1)).flatMap (encOp req)).length ≤ _ at hlm
                    rw [← hrst] at hD0 hlm
                    rw [List.append_assoc] at hD0
                    rw [List.length_append] at hlm
                    clear hrst
                    generalize (ops.getD k default).head = h2 at hSk hcell hD0 hlm F2 B1 B2 B3
                    have H15 := Hid.mk (And.intro hD0 (And.intro hlm (And.intro F2 (And.intro hSk (And.intro B1 (And.intro B2 B3))))))
                    clear hD0 hlm F2 hSk B1 B2 B3
                    obtain ⟨o', ho⟩ : ∃ o', o' = k * 14 := ⟨_, rfl⟩
                    obtain ⟨y, hy⟩ : ∃ y, y = x.add o' := ⟨_, rfl⟩
                    have ho' : k * 14 = o' := ho.symm
                    have hy' : x.add o' = y := hy.symm
                    have hcj : ∀ j, j < 14 → wr.cell? (y.add j) = (#[.int .u64 h2.zx, .int .i64 h2.tm, .int .i32 h2.fs.op, .string h2.fs.path, .slice da2 (wBuf h2.fs.data) dc2, .slice aa2 h2.fs.acl.length ac2, .int .i32 h2.fs.ver, .int .i64 h2.fs.ses, .int .i32 h2.fs.tmo, .slice pa2 (wBuf h2.fs.pw) pc2, .slice oa2 ol2 oc2, .bool h2.seq, .slice ka2 h2.ask.length kc2, .int .i64 h2.ases] : Array Value)[j]? := fun j hj => by
                      have h1 := hcell j hj
                      rw [ho', ← Deep.add_add, hy'] at h1
                      exact h1
                    have c0 : wr.cell? y = some (.int .u64 h2.zx) := by
                      have h1 := hcj 0 (by omega)
                      rw [Addr.add_zero'] at h1
                      exact h1
                    have c1 : wr.cell? ⟨y.block, y.off + 1, none⟩ = some (.int .i64 h2.tm) := hcj 1 (by omega)
                    have c2 : wr.cell? ⟨y.block, y.off + 2, none⟩ = some (.int .i32 h2.fs.op) := hcj 2 (by omega)
                    have c3 : wr.cell? ⟨y.block, y.off + 3, none⟩ = some (.string h2.fs.path) := hcj 3 (by omega)
                    have c4 : wr.cell? ⟨y.block, y.off + 4, none⟩ = some (.slice da2 (wBuf h2.fs.data) dc2) := hcj 4 (by omega)
                    have c5 : wr.cell? ⟨y.block, y.off + 5, none⟩ = some (.slice aa2 h2.fs.acl.length ac2) := hcj 5 (by omega)
                    have c6 : wr.cell? ⟨y.block, y.off + 6, none⟩ = some (.int .i32 h2.fs.ver) := hcj 6 (by omega)
                    have c7 : wr.cell? ⟨y.block, y.off + 7, none⟩ = some (.int .i64 h2.fs.ses) := hcj 7 (by omega)
                    have c8 : wr.cell? ⟨y.block, y.off + 8, none⟩ = some (.int .i32 h2.fs.tmo) := hcj 8 (by omega)
                    have c9 : wr.cell? ⟨y.block, y.off + 9, none⟩ = some (.slice pa2 (wBuf h2.fs.pw) pc2) := hcj 9 (by omega)
                    have c10 : wr.cell? ⟨y.block, y.off + 10, none⟩ = some (.slice oa2 ol2 oc2) := hcj 10 (by omega)
                    have c11 : wr.cell? ⟨y.block, y.off + 11, none⟩ = some (.bool h2.seq) := hcj 11 (by omega)
                    have c12 : wr.cell? ⟨y.block, y.off + 12, none⟩ = some (.slice ka2 h2.ask.length kc2) := hcj 12 (by omega)
                    have c13 : wr.cell? ⟨y.block, y.off + 13, none⟩ = some (.int .i64 h2.ases) := hcj 13 (by omega)
                    clear hcj hcell hx ecs hsz hTk ho hy hcl
                    go_wp2_with fail
                    clear c0 c1 c2 c3 c4 c5 c6 c7 c8 c9 c10 c11 c12 c13 d10
                    have hDl : D < wr.heap.size := by
                      obtain ⟨_, _, _, _, _, hDD, _⟩ := HR.out.1
                      exact (Array.getElem?_eq_some_iff.1 hDD).1
                    have hbl : b < wr.heap.size := (Array.getElem?_eq_some_iff.1 HR.out.2.2).1
                    have H16 := Hid.mk (And.intro (DecS.below H15.out.1 ((Below.refl _ wr).alloc (Nat.le_refl _) (.cells #[.int .u64 h2.zx, .int .i64 h2.tm, .int .i32 h2.fs.op, .string h2.fs.path, .slice da2 (wBuf h2.fs.data) dc2, .slice aa2 h2.fs.acl.length ac2, .int .i32 h2.fs.ver, .int .i64 h2.fs.ses, .int .i32 h2.fs.tmo, .slice pa2 (wBuf h2.fs.pw) pc2, .slice oa2 ol2 oc2, .bool h2.seq, .slice ka2 h2.ask.length kc2, .int .i64 h2.ases] 28))) (And.intro (HR.out.2.1.alloc HR.out.2.1.size (.cells #[.int .u64 h2.zx, .int .i64 h2.tm, .int .i32 h2.fs.op, .string h2.fs.path, .slice da2 (wBuf h2.fs.data) dc2, .slice aa2 h2.fs.acl.length ac2, .int .i32 h2.fs.ver, .int .i64 h2.fs.ses, .int .i32 h2.fs.tmo, .slice pa2 (wBuf h2.fs.pw) pc2, .slice oa2 ol2 oc2, .bool h2.seq, .slice ka2 h2.ask.length kc2, .int .i64 h2.ases] 28)) (And.intro ((Below.heap_alloc wr (.cells #[.int .u64 h2.zx, .int .i64 h2.tm, .int .i32 h2.fs.op, .string h2.fs.path, .slice da2 (wBuf h2.fs.data) dc2, .slice aa2 h2.fs.acl.length ac2, .int .i32 h2.fs.ver, .int .i64 h2.fs.ses, .int .i32 h2.fs.tmo, .slice pa2 (wBuf h2.fs.pw) pc2, .slice oa2 ol2 oc2, .bool h2.seq, .slice ka2 h2.ask.length kc2, .int .i64 h2.ases] 28) _ hbl).trans HR.out.2.2) (heap_new wr (.cells #[.int .u64 h2.zx, .int .i64 h2.tm, .int .i32 h2.fs.op, .string h2.fs.path, .slice da2 (wBuf h2.fs.data) dc2, .slice aa2 h2.fs.acl.length ac2, .int .i32 h2.fs.ver, .int .i64 h2.fs.ses, .int .i32 h2.fs.tmo, .slice pa2 (wBuf h2.fs.pw) pc2, .slice oa2 ol2 oc2, .bool h2.seq, .slice ka2 h2.ask.length kc2, .int .i64 h2.ases] 28)))))
                    have H17 := Hid.mk H15.out.2
                    clear H15 HR
                    generalize wr.alloc (.cells #[.int .u64 h2.zx, .int .i64 h2.tm, .int .i32 h2.fs.op, .string h2.fs.path, .slice da2 (wBuf h2.fs.data) dc2, .slice aa2 h2.fs.acl.length ac2, .int .i32 h2.fs.ver, .int .i64 h2.fs.ses, .int .i32 h2.fs.tmo, .slice pa2 (wBuf h2.fs.pw) pc2, .slice oa2 ol2 oc2, .bool h2.seq, .slice ka2 h2.ask.length kc2, .int .i64 h2.ases] 28) = wq at H16 ⊢
                    obtain ⟨ob, hob⟩ : ∃ ob, ob = wr.heap.size := ⟨_, rfl⟩
                    rw [← hob] at H16 ⊢
                    have hobD : ob ≠ D := by omega
                    clear hob hDl hbl
                    refine (match_any H16.out.2.1 HDD.out.1 h2 H17.out.2.1 H17.out.2.2.1 _ _ _ _ _ H17.out.2.2.2.1 H17.out.2.2.2.2.1 H17.out.2.2.2.2.2 _ H16.out.1 (by have := H17.out.1; rw [List.length_append]; omega)).mono ?_
                    rintro e w13 ⟨rfl, hD, hG⟩
                    have H18 := Hid.mk (And.intro hD (And.intro (grown_W H16.out.2.1 HDD.out.1 hG) (And.intro (grown_row H16.out.2.2.1 HDD.out.2 hG) (grown_row H16.out.2.2.2 hobD hG))))
                    clear H16 hD hG
                    have hkk : ops.length ≤ 1048576 := HS.out.2.2.1
                    cases req with
                    | false =>
                      have H19 : Hid (DecS w13 D ((ops.drop (k + 1)).flatMap (encOp false))) := by
                        have h1 := H18.out.1
                        rw [HRS.out] at h1
                        exact h1
                      go_wp2_with fail
                      exact ⟨⟨k + 1, by omega, by go_num, rfl, ⟨H19.out, H18.out.2.1, H18.out.2.2.1⟩⟩, by simp [intOf]; omega⟩
                    | true =>
                      have H19 : Hid (DecS w13 D ([seqByte h2.seq] ++ rst) ∧ 1 + rst.length ≤ 140737488355328) := by
                        refine ⟨H18.out.1, ?_⟩
                        have h1 := H17.out.1
                        rw [if_pos rfl] at h1
                        simp only [List.length_cons, List.length_nil] at h1
                        omega
                      go_wp2_with fail
                      refine (dtake_any (seqByte h2.seq) rst H19.out.1 H19.out.2).mono ?_
                      rintro e w14 ⟨g2, o2, rfl, hB, hD, hG⟩
                      have H20 := Hid.mk (And.intro hD (And.intro (grown_W H18.out.2.1 HDD.out.1 hG) (grown_row H18.out.2.2.1 HDD.out.2 hG)))
                      have c0 : w14.cell? ⟨g2, o2, none⟩ = some (.int .u8 ((seqByte h2.seq).toNat : Int)) := hB.cell 0 (by simp)
                      have c11 : w14.cell? ⟨ob, 11, none⟩ = some (.bool h2.seq) := cell_in (grown_row H18.out.2.2.2 hobD hG) 11 _ rfl
                      have HBB : Hid (∀ w : World, Calls Tryd.prog 15 #[.bool h2.seq] w fun e w' => e = .returned (.int .u8 ((seqByte h2.seq).toNat : Int)) ∧ w = w') := fun w => boolByte_any w h2.seq
                      generalize ((seqByte h2.seq).toNat : Int) = z at c0 HBB
                      clear hB hD hG H18 H19
                      go_wp2_with fail
                      go_quiet ((go_at_call 15; exact (HBB.out _).mono fun _ _ ⟨he, hm⟩ => ⟨he, _, hm.symm⟩))
                      have H21 : Hid (DecS w14 D ((ops.drop (k + 1)).flatMap (encOp true))) := by
                        have h1 := H20.out.1
                        rw [HRS.out] at h1
                        exact h1
                      go_wp2_with fail
                      exact ⟨⟨k + 1, by omega, by go_num, by simp, ⟨H21.out, below_drewN H20.out.2.1 _, H20.out.2.2⟩⟩, by simp [intOf]; omega⟩
                · have hke : k = ops.length := by omega
                  subst hke
                  have H13 : Hid (DecS wr D [] ∧ Below W.heap.size W wr) := by
                    have h1 := HR.out.1
                    rw [List.drop_length] at h1
                    exact ⟨h1, HR.out.2.1⟩
                  go_wp2_with fail
                  refine (err_any H13.out.1).mono ?_
                  rintro e w' ⟨rfl, rfl⟩
                  go_wp2_with fail
                  refine (len_any H13.out.1).mono ?_
                  rintro e w' ⟨rfl, rfl⟩
                  go_wp2_with fail
                  go_ret
                  exact ⟨rfl, H13.out.2⟩

/-- FnTxnEncodeRoundTrip answers true, and what was there stays. -/
theorem walk3 (W : World) (m : Nat) (cs : Array Value) (t : Tx) (hT : TxIn W m cs t) (pv : Value) (o : Option (List UInt8)) (hp : BytesIn W pv o) (hpl : wBuf o ≤ 9223372036854775807) (req : Bool) :
    Calls Tryd.prog 3 #[.agg cs, pv, .bool req] W fun e w' => e = .returned (.bool true) ∧ Below W.heap.size W w' := by
  cases m with
  | zero => exact hT.elim
  | succ m =>
    have hT' := hT
    obtain ⟨dv, av, pv', ov, kv, css, rfl, ⟨hF, hL, hol⟩, h3, h4, h5, h6, h7, h8, h9⟩ := hT
    obtain ⟨h, ops⟩ := t
    obtain ⟨da, dc, rfl⟩ := h3.len
    obtain ⟨aa, ac, rfl⟩ := h4.len
    obtain ⟨pa, pc, rfl⟩ := h5.len
    obtain ⟨oa, oc, rfl⟩ := h6.len
    obtain ⟨ka, kc, rfl⟩ := h7.len
    obtain ⟨qa, qc, rfl⟩ := hp.len
    rw [h8] at h6 hT' ⊢
    exact walk_step m W h ops da aa pa oa ka dc ac pc oc kc css hT' hF h3 h4 h5 h6 h8 h9 qa qc o hp hpl req

end Go.Proofs.Qxb6609425aDoor
