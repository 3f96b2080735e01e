/-
  Seat Qxb6609425aDoor: encode.
-/
import Derived.Test.Qxb6609425aDoorEnc6
namespace Go.Proofs.Qxb6609425aDoor
open Go.RowKit
set_option linter.unusedVariables false
set_option linter.unusedSimpArgs false

def IsSl (v : Value) : Prop := ∃ a l c, v = .slice a l c
theorem BytesIn.sl {w : World} {v : Value} {o : Option (List UInt8)} (h : BytesIn w v o) : IsSl v := by
  rcases h with ⟨h, _⟩ | ⟨x, c, bs, h, _⟩
  · exact ⟨_, _, _, h⟩
  · exact ⟨_, _, _, h⟩
theorem AclRow.sl {w : World} {v : Value} {l : List Acl} (h : AclRow w v l) : IsSl v := by
  rcases h with ⟨h, _⟩ | ⟨x, c, bs, h, _⟩
  · exact ⟨_, _, _, h⟩
  · exact ⟨_, _, _, h⟩

/-- The ops of a tree.Txn, in a row of the call's own. -/
def OpRow (W w : World) (ov : Value) (ts : List Tx) : Prop :=
  (ov = .slice none 0 0 ∧ ts = []) ∨ ∃ b c arr, ov = .slice (some ⟨b, 0, none⟩) ts.length c ∧ w.heap[b]? = some (.cells arr 40) ∧
    ∀ i, i < ts.length → ∃ dv av pv ov' kv, (∀ j, j < 14 → arr[i * 14 + j]? = (cells (ts.getD i default).head dv av pv ov' kv)[j]?) ∧ BytesIn W dv (ts.getD i default).head.fs.data ∧ AclRow w av (ts.getD i default).head.fs.acl ∧ BytesIn W pv (ts.getD i default).head.fs.pw ∧ IsSl ov' ∧ IsSl kv

theorem OpRow.kept {W w w' : World} {E base : Nat} {xs : List UInt8} {v : Value} {l : List Tx} (A : OpRow W w v l) (H : EncS w E base xs) (k : Kept w w' E base) : OpRow W w' v l := by
  rcases A with h | ⟨b, c, arr, h1, h2, h3⟩
  · exact .inl h
  · refine .inr ⟨b, c, arr, h1, kept_row H k h2 (by decide) (by decide), fun i hi => ?_⟩
    obtain ⟨dv, av, pv, ov', kv, g1, g2, g3, g4, g5⟩ := h3 i hi
    exact ⟨dv, av, pv, ov', kv, g1, g2, g3.kept H k, g4, g5⟩

theorem encOp_length (req : Bool) (t : Tx) : (encOp req t).length = (encFields t.head.fs).length + (if req then 1 else 0) := by
  unfold encOp
  rw [List.length_append]
  cases req <;> rfl

set_option maxRecDepth 100000 in
set_option maxHeartbeats 3200000 in
theorem encode_any {W w : World} {E : Nat} {xs : List UInt8} (H : EncS w E W.heap.size xs) (hW : Below W.heap.size W w) (req : Bool) (h : Head) (ops : List Tx) (F : Fits h) (dv av pv ov kv : Value) (S : SmallF h.fs) (SO : ∀ t ∈ ops, SmallF t.head.fs) (hol : ops.length ≤ 1048576) (hd : BytesIn W dv h.fs.data) (ha : AclRow w av h.fs.acl) (hp : BytesIn W pv h.fs.pw) (ho : OpRow W w ov ops) (hlim : xs.length + (encTop req (.mk h ops)).length ≤ 140737488355328) :
    Calls Tryd.prog 20 #[.agg #[.int .u64 h.zx, .int .i64 h.tm, .int .i32 h.fs.op, .string h.fs.path, dv, av, .int .i32 h.fs.ver, .int .i64 h.fs.ses, .int .i32 h.fs.tmo, pv, ov, .bool h.seq, kv, .int .i64 h.ases], .pointer (some ⟨E, 0, none⟩), .bool req] w fun e w' => e = .returned (.tuple #[]) ∧ EncS w' E W.heap.size (xs ++ encTop req (.mk h ops)) ∧ Kept w w' E W.heap.size := by
  have hL : xs.length + (8 + (8 + ((encFields h.fs).length + (encOps req (.mk h ops)).length))) ≤ 140737488355328 := by
    unfold encTop at hlim
    simp only [List.length_append, be8_length] at hlim
    exact hlim
  have HD := Hid.mk (And.intro hd hp)
  have HW := Hid.mk hW
  have HS := Hid.mk (And.intro S SO)
  have HF := Hid.mk F
  have H0 : Hid (EncS (w.alloc (.cells (cells h dv av pv ov kv) 40)) E W.heap.size xs ∧ Kept w (w.alloc (.cells (cells h dv av pv ov kv) 40)) E W.heap.size ∧ (w.alloc (.cells (cells h dv av pv ov kv) 40)).heap[w.heap.size]? = some (.cells (cells h dv av pv ov kv) 40) ∧ AclRow (w.alloc (.cells (cells h dv av pv ov kv) 40)) av h.fs.acl ∧ OpRow W (w.alloc (.cells (cells h dv av pv ov kv) 40)) ov ops) :=
    ⟨H.alloc _, Kept.alloc _ _ _ _, heap_new _ _, ha.kept H (Kept.alloc _ _ _ _), ho.kept H (Kept.alloc _ _ _ _)⟩
  have HE : Hid (xs ++ encTop req (.mk h ops) = xs ++ be8 h.zx ++ be8 h.tm ++ encFields h.fs ++ encOps req (.mk h ops)) := by
    unfold Hid encTop
    simp only [List.append_assoc]
    rfl
  have hbs := hW.size
  clear H hd ha hp hW S hlim ho F SO
  go_enter Tryd.func20, Tryd.ntmps20
  go_wp2_with fail
  show Calls _ _ _ (w.alloc (.cells (cells h dv av pv ov kv) 40)) _
  generalize (w.alloc (.cells (cells h dv av pv ov kv) 40)) = w0 at H0 ⊢
  generalize w.heap.size = b at H0 ⊢
  have hb0 : W.heap.size ≤ w0.heap.size := Nat.le_trans HW.out.size H0.out.2.1.size
  refine (zxid_any H0.out.1 hb0 (by omega) h.zx HF.out.zx0 HF.out.zx1).mono ?_
  rintro e w1 ⟨rfl, hS, hK⟩
  have H1 := Hid.mk (And.intro hS (And.intro (H0.out.2.1.trans hK) (And.intro (kept_row H0.out.1 hK H0.out.2.2.1 (by decide) (by decide)) (And.intro (H0.out.2.2.2.1.kept H0.out.1 hK) (H0.out.2.2.2.2.kept H0.out.1 hK)))))
  clear hS hK H0 hb0
  have d1 : w1.cell? ⟨b, 1, none⟩ = some (.int .i64 h.tm) := cell_in H1.out.2.2.1 1 _ rfl
  have hb1 : W.heap.size ≤ w1.heap.size := Nat.le_trans HW.out.size H1.out.2.1.size
  go_wp2_with fail
  refine (long_any H1.out.1 hb1 (by simp only [List.length_append, be8_length]; omega) h.tm).mono ?_
  rintro e w2 ⟨rfl, hS, hK⟩
  have H2 := Hid.mk (And.intro hS (And.intro (H1.out.2.1.trans hK) (And.intro (kept_row H1.out.1 hK H1.out.2.2.1 (by decide) (by decide)) (And.intro (H1.out.2.2.2.1.kept H1.out.1 hK) (H1.out.2.2.2.2.kept H1.out.1 hK)))))
  clear hS hK H1 hb1 d1
  have d0 : w2.cell? ⟨b, 0, none⟩ = some (.int .u64 h.zx) := cell_in H2.out.2.2.1 0 _ rfl
  have d1 : w2.cell? ⟨b, 1, none⟩ = some (.int .i64 h.tm) := cell_in H2.out.2.2.1 1 _ rfl
  have d2 : w2.cell? ⟨b, 2, none⟩ = some (.int .i32 h.fs.op) := cell_in H2.out.2.2.1 2 _ rfl
  have d3 : w2.cell? ⟨b, 3, none⟩ = some (.string h.fs.path) := cell_in H2.out.2.2.1 3 _ rfl
  have d4 : w2.cell? ⟨b, 4, none⟩ = some (dv) := cell_in H2.out.2.2.1 4 _ rfl
  have d5 : w2.cell? ⟨b, 5, none⟩ = some (av) := cell_in H2.out.2.2.1 5 _ rfl
  have d6 : w2.cell? ⟨b, 6, none⟩ = some (.int .i32 h.fs.ver) := cell_in H2.out.2.2.1 6 _ rfl
  have d7 : w2.cell? ⟨b, 7, none⟩ = some (.int .i64 h.fs.ses) := cell_in H2.out.2.2.1 7 _ rfl
  have d8 : w2.cell? ⟨b, 8, none⟩ = some (.int .i32 h.fs.tmo) := cell_in H2.out.2.2.1 8 _ rfl
  have d9 : w2.cell? ⟨b, 9, none⟩ = some (pv) := cell_in H2.out.2.2.1 9 _ rfl
  have d10 : w2.cell? ⟨b, 10, none⟩ = some (ov) := cell_in H2.out.2.2.1 10 _ rfl
  have d11 : w2.cell? ⟨b, 11, none⟩ = some (.bool h.seq) := cell_in H2.out.2.2.1 11 _ rfl
  have d12 : w2.cell? ⟨b, 12, none⟩ = some (kv) := cell_in H2.out.2.2.1 12 _ rfl
  have d13 : w2.cell? ⟨b, 13, none⟩ = some (.int .i64 h.ases) := cell_in H2.out.2.2.1 13 _ rfl
  go_wp2_with fail
  refine (fields_any H2.out.1 (kept_below HW.out H2.out.2.1) h dv av pv ov kv HS.out.1 HD.out.1 H2.out.2.2.2.1 HD.out.2 (by simp only [List.length_append, be8_length]; omega)).mono ?_
  rintro e w3 ⟨rfl, hS, hK⟩
  have H3 := Hid.mk (And.intro hS (And.intro (H2.out.2.1.trans hK) (And.intro (kept_row H2.out.1 hK H2.out.2.2.1 (by decide) (by decide)) (H2.out.2.2.2.2.kept H2.out.1 hK))))
  clear hS hK H2 d0 d1 d2 d3 d4 d5 d6 d7 d8 d9 d10 d11 d12 d13
  have hl3 : (xs ++ be8 h.zx ++ be8 h.tm ++ encFields h.fs).length + (encOps req (.mk h ops)).length ≤ 140737488355328 := by
    simp only [List.length_append, be8_length]
    omega
  generalize xs ++ be8 h.zx ++ be8 h.tm ++ encFields h.fs = ys at H3 HE hl3
  clear hL
  have d2 : w3.cell? ⟨b, 2, none⟩ = some (.int .i32 h.fs.op) := cell_in H3.out.2.2.1 2 _ rfl
  have d10 : w3.cell? ⟨b, 10, none⟩ = some ov := cell_in H3.out.2.2.1 10 _ rfl
  have hb3 : W.heap.size ≤ w3.heap.size := Nat.le_trans HW.out.size H3.out.2.1.size
  by_cases h14 : h.fs.op = 14
  · have q14 : (h.fs.op == 14) = true := by simp [h14]
    have e14 : encOps req (.mk h ops) = be4 ops.length ++ ops.flatMap (encOp req) := by
      unfold encOps
      exact if_pos h14
    rw [e14] at HE hl3
    clear e14
    rcases H3.out.2.2.2 with ⟨rfl, rfl⟩ | ⟨b2, c2, arr, rfl, hrow, hcs⟩
    · go_wp2_with fail
      refine (int_any H3.out.1 hb3 (by rw [List.length_append, be4_length] at hl3; omega) 0).mono ?_
      rintro e w4 ⟨rfl, hS, hK⟩
      have H4 := Hid.mk (And.intro hS (And.intro (H3.out.2.1.trans hK) (kept_row H3.out.1 hK H3.out.2.2.1 (by decide) (by decide))))
      clear hS hK
      have f10 : w4.cell? ⟨b, 10, none⟩ = some (.slice none 0 0) := cell_in H4.out.2.2 10 _ rfl
      go_wp2_with fail
      go_loop [31] (fun t => t = .int .i64 0) (fun t => 0)
      case atStart => rfl
      case round =>
        subst hrel
        go_wp2_with fail
        go_end0
        rw [HE.out, List.flatMap_nil, List.append_nil]
        exact ⟨rfl, H4.out.1, H4.out.2.1⟩
    · have HR := Hid.mk hrow
      have HC := Hid.mk hcs
      clear hrow hcs
      go_wp2_with fail
      refine (int_any H3.out.1 hb3 (by rw [List.length_append, be4_length] at hl3; omega) (ops.length : Int)).mono ?_
      rintro e w4 ⟨rfl, hS, hK⟩
      have H4 := Hid.mk (And.intro hS (And.intro (H3.out.2.1.trans hK) (And.intro (kept_row H3.out.1 hK H3.out.2.2.1 (by decide) (by decide)) (H3.out.2.2.2.kept H3.out.1 hK))))
      clear hS hK H3 HR HC d2 d10
      have f10 : w4.cell? ⟨b, 10, none⟩ = some (.slice (some ⟨b2, 0, none⟩) ops.length c2) := cell_in H4.out.2.2.1 10 _ rfl
      have hl4 : (ys ++ be4 (ops.length : Int)).length + (ops.flatMap (encOp req)).length ≤ 140737488355328 := by
        rw [List.length_append] at hl3 ⊢
        omega
      rw [← List.append_assoc] at HE
      generalize ys ++ be4 (ops.length : Int) = zs at H4 HE hl4
      clear hl3
      go_wp2_with fail
      clear f10
      have H5 : Hid (EncS w4 E W.heap.size (zs ++ (ops.take 0).flatMap (encOp req)) ∧ Kept w w4 E W.heap.size ∧ Kept w4 w4 E W.heap.size) := ⟨by simpa using H4.out.1, H4.out.2.1, Kept.refl _ _ _⟩
      go_loopw [31] (fun t wr => ∃ k : Nat, k ≤ ops.length ∧ t = .int .i64 k ∧ Hid (EncS wr E W.heap.size (zs ++ (ops.take k).flatMap (encOp req)) ∧ Kept w wr E W.heap.size ∧ Kept w4 wr E W.heap.size)) (fun t _ => ops.length - (intOf t).toNat)
      case atStart => exact ⟨0, Nat.zero_le _, rfl, H5⟩
      case round =>
        clear H5
        obtain ⟨k, hk, rfl, HR⟩ := hrel
        by_cases hlt : k < ops.length
        · have hlt' : (k : Int) < (ops.length : Int) := by omega
          rcases H4.out.2.2.2.kept H4.out.1 HR.out.2.2 with ⟨e1, _⟩ | ⟨b3, c3, arr3, e1, hrow, hcs⟩
          · cases e1
          · cases e1
            obtain ⟨t, ht⟩ : ∃ t, t = ops.getD k default := ⟨_, rfl⟩
            have htm : t ∈ ops := by
              rw [ht, List.getD_eq_getElem?_getD, List.getElem?_eq_getElem hlt]
              exact List.getElem_mem hlt
            obtain ⟨dv', av', pv', ov', kv', q, g2, g3, g4, g5, g6⟩ := hcs k hlt
            rw [← ht] at q g2 g3 g4
            obtain ⟨z0, z1, z2, rfl⟩ := g2.sl
            obtain ⟨y0, y1, y2, rfl⟩ := g3.sl
            obtain ⟨x0, x1, x2, rfl⟩ := g4.sl
            obtain ⟨u0, u1, u2, rfl⟩ := g5
            obtain ⟨t0, t1, t2, rfl⟩ := g6
            obtain ⟨o, ho⟩ : ∃ o, o = k * 14 := ⟨_, rfl⟩
            rw [← ho] at q
            have ho' : k * 14 = o := ho.symm
            have c0 : wr.cell? ⟨b2, o, none⟩ = some (.int .u64 t.head.zx) := cell_in hrow (o + 0) _ (q 0 (by omega))
            have c1 : wr.cell? ⟨b2, o + 1, none⟩ = some (.int .i64 t.head.tm) := cell_in hrow (o + 1) _ (q 1 (by omega))
            have c2 : wr.cell? ⟨b2, o + 2, none⟩ = some (.int .i32 t.head.fs.op) := cell_in hrow (o + 2) _ (q 2 (by omega))
            have c3 : wr.cell? ⟨b2, o + 3, none⟩ = some (.string t.head.fs.path) := cell_in hrow (o + 3) _ (q 3 (by omega))
            have c4 : wr.cell? ⟨b2, o + 4, none⟩ = some (.slice z0 z1 z2) := cell_in hrow (o + 4) _ (q 4 (by omega))
            have c5 : wr.cell? ⟨b2, o + 5, none⟩ = some (.slice y0 y1 y2) := cell_in hrow (o + 5) _ (q 5 (by omega))
            have c6 : wr.cell? ⟨b2, o + 6, none⟩ = some (.int .i32 t.head.fs.ver) := cell_in hrow (o + 6) _ (q 6 (by omega))
            have c7 : wr.cell? ⟨b2, o + 7, none⟩ = some (.int .i64 t.head.fs.ses) := cell_in hrow (o + 7) _ (q 7 (by omega))
            have c8 : wr.cell? ⟨b2, o + 8, none⟩ = some (.int .i32 t.head.fs.tmo) := cell_in hrow (o + 8) _ (q 8 (by omega))
            have c9 : wr.cell? ⟨b2, o + 9, none⟩ = some (.slice x0 x1 x2) := cell_in hrow (o + 9) _ (q 9 (by omega))
            have c10 : wr.cell? ⟨b2, o + 10, none⟩ = some (.slice u0 u1 u2) := cell_in hrow (o + 10) _ (q 10 (by omega))
            have c11 : wr.cell? ⟨b2, o + 11, none⟩ = some (.bool t.head.seq) := cell_in hrow (o + 11) _ (q 11 (by omega))
            have c12 : wr.cell? ⟨b2, o + 12, none⟩ = some (.slice t0 t1 t2) := cell_in hrow (o + 12) _ (q 12 (by omega))
            have c13 : wr.cell? ⟨b2, o + 13, none⟩ = some (.int .i64 t.head.ases) := cell_in hrow (o + 13) _ (q 13 (by omega))
            have hlen : (zs ++ (ops.take k).flatMap (encOp req)).length + ((encFields t.head.fs).length + (if req then 1 else 0)) ≤ 140737488355328 := by
              have h1 := take_le ops (encOp req) (k + 1)
              rw [take_next ops (encOp req) k hlt, List.length_append, ← ht, encOp_length] at h1
              rw [List.length_append]
              omega
            have hnx : Hid (zs ++ (ops.take (k + 1)).flatMap (encOp req) = (zs ++ (ops.take k).flatMap (encOp req)) ++ encFields t.head.fs ++ (if req then [seqByte t.head.seq] else [])) := by
              unfold Hid
              rw [take_next ops (encOp req) k hlt, ← ht]
              unfold encOp
              simp only [List.append_assoc]
            have HG := Hid.mk (And.intro g2 (And.intro g3 g4))
            clear hrow hcs q ht ho g2 g3 g4
            generalize zs ++ (ops.take k).flatMap (encOp req) = us at HR hlen hnx
            go_wp2_with fail
            show Calls _ _ _ (wr.alloc (.cells (cells t.head (.slice z0 z1 z2) (.slice y0 y1 y2) (.slice x0 x1 x2) (.slice u0 u1 u2) (.slice t0 t1 t2)) 40)) _
            have H6 : Hid (EncS (wr.alloc (.cells (cells t.head (.slice z0 z1 z2) (.slice y0 y1 y2) (.slice x0 x1 x2) (.slice u0 u1 u2) (.slice t0 t1 t2)) 40)) E W.heap.size us ∧ Kept w (wr.alloc (.cells (cells t.head (.slice z0 z1 z2) (.slice y0 y1 y2) (.slice x0 x1 x2) (.slice u0 u1 u2) (.slice t0 t1 t2)) 40)) E W.heap.size ∧ Kept w4 (wr.alloc (.cells (cells t.head (.slice z0 z1 z2) (.slice y0 y1 y2) (.slice x0 x1 x2) (.slice u0 u1 u2) (.slice t0 t1 t2)) 40)) E W.heap.size ∧ (wr.alloc (.cells (cells t.head (.slice z0 z1 z2) (.slice y0 y1 y2) (.slice x0 x1 x2) (.slice u0 u1 u2) (.slice t0 t1 t2)) 40)).heap[wr.heap.size]? = some (.cells (cells t.head (.slice z0 z1 z2) (.slice y0 y1 y2) (.slice x0 x1 x2) (.slice u0 u1 u2) (.slice t0 t1 t2)) 40) ∧ AclRow (wr.alloc (.cells (cells t.head (.slice z0 z1 z2) (.slice y0 y1 y2) (.slice x0 x1 x2) (.slice u0 u1 u2) (.slice t0 t1 t2)) 40)) (.slice y0 y1 y2) t.head.fs.acl) :=
              ⟨HR.out.1.alloc _, HR.out.2.1.trans (Kept.alloc _ _ _ _), HR.out.2.2.trans (Kept.alloc _ _ _ _), heap_new _ _, HG.out.2.1.kept HR.out.1 (Kept.alloc _ _ _ _)⟩
            clear HR c0 c1 c2 c3 c4 c5 c6 c7 c8 c9 c10 c11 c12 c13 ho'
            generalize (wr.alloc (.cells (cells t.head (.slice z0 z1 z2) (.slice y0 y1 y2) (.slice x0 x1 x2) (.slice u0 u1 u2) (.slice t0 t1 t2)) 40)) = w6 at H6 ⊢
            generalize wr.heap.size = cb at H6 ⊢
            refine (fields_any H6.out.1 (kept_below HW.out H6.out.2.1) t.head (.slice z0 z1 z2) (.slice y0 y1 y2) (.slice x0 x1 x2) (.slice u0 u1 u2) (.slice t0 t1 t2) (HS.out.2 t htm) HG.out.1 H6.out.2.2.2.2 HG.out.2.2 (by omega)).mono ?_
            rintro e w7 ⟨rfl, hS, hK⟩
            have H7 := Hid.mk (And.intro hS (And.intro (H6.out.2.1.trans hK) (And.intro (H6.out.2.2.1.trans hK) (kept_row H6.out.1 hK H6.out.2.2.2.1 (by decide) (by decide)))))
            clear hS hK H6
            cases req
            · go_wp2_with fail
              refine ⟨⟨k + 1, by omega, by go_num, ?_⟩, by simp [intOf]; omega⟩
              rw [hnx.out]
              exact ⟨by simpa using H7.out.1, H7.out.2.1, H7.out.2.2.1⟩
            · have f11 : w7.cell? ⟨cb, 11, none⟩ = some (.bool t.head.seq) := cell_in H7.out.2.2.2 11 _ rfl
              have hb7 : W.heap.size ≤ w7.heap.size := Nat.le_trans HW.out.size H7.out.2.1.size
              go_wp2_with fail
              refine (bool_any H7.out.1 hb7 t.head.seq (by rw [List.length_append]; simp at hlen; omega)).mono ?_
              rintro e w8 ⟨rfl, hS, hK⟩
              have H8 := Hid.mk (And.intro hS (And.intro (H7.out.2.1.trans hK) (H7.out.2.2.1.trans hK)))
              clear hS hK H7 f11 hb7
              go_wp2_with fail
              refine ⟨⟨k + 1, by omega, by go_num, ?_⟩, by simp [intOf]; omega⟩
              rw [hnx.out]
              exact H8
        · have : k = ops.length := by omega
          subst this
          go_wp2_with fail
          go_end0
          have h5 := HR.out
          rw [List.take_length] at h5
          rw [HE.out]
          exact ⟨rfl, h5.1, h5.2.1⟩
  · have q14 : (h.fs.op == 14) = false := by simp [h14]
    have e14 : encOps req (.mk h ops) = [] := by
      unfold encOps
      exact if_neg h14
    go_wp2_with fail
    rw [HE.out, e14, List.append_nil]
    exact bodyPost_ret (v := .tuple #[]) (by simp [results, Tryd.results20, go_sem]) rfl ⟨rfl, H3.out.1, H3.out.2.1⟩

end Go.Proofs.Qxb6609425aDoor
