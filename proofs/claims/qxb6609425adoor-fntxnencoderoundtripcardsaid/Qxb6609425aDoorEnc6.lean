/-
  Seat Qxb6609425aDoor: encodeFields.
-/
import Derived.Test.Qxb6609425aDoorEnc5
namespace Go.Proofs.Qxb6609425aDoor
open Go.RowKit
set_option linter.unusedVariables false
set_option linter.unusedSimpArgs false

theorem encStr_length (s : ByteArray) : (encStr s).length = 4 + s.size := by
  unfold encStr
  rw [List.length_append, be4_length, size_list]
theorem encBuf_length (o : Option (List UInt8)) : (encBuf o).length = 4 + wBuf o := by
  cases o with
  | none => exact be4_length _
  | some bs =>
    unfold encBuf
    rw [List.length_append, be4_length]
    rfl
theorem encFields_length (F : Fields) : (encFields F).length = 4 + (4 + F.path.size) + (4 + wBuf F.data) + (encAcls F.acl).length + 4 + 8 + 4 + (4 + wBuf F.pw) := by
  unfold encFields
  simp only [List.length_append, be4_length, be8_length, encStr_length, encBuf_length]
  omega

/-- Nothing of it is long. -/
structure SmallF (F : Fields) : Prop where
  path : F.path.size ≤ 1048576
  data : wBuf F.data ≤ 1048576
  pw : wBuf F.pw ≤ 1048576
  acl : F.acl.length ≤ 1048576
  strs : ∀ a ∈ F.acl, a.scheme.size ≤ 1048576 ∧ a.id.size ≤ 1048576

set_option maxRecDepth 100000 in
set_option maxHeartbeats 1600000 in
theorem fields_any {W w : World} {E : Nat} {xs : List UInt8} (H : EncS w E W.heap.size xs) (hW : Below W.heap.size W w) (h : Head) (dv av pv ov kv : Value) (S : SmallF h.fs) (hd : BytesIn W dv h.fs.data) (ha : AclRow w av h.fs.acl) (hp : BytesIn W pv h.fs.pw) (hlim : xs.length + (encFields h.fs).length ≤ 140737488355328) :
    Calls Tryd.prog 30 #[.agg #[.int .u64 h.zx, .int .i64 h.tm, .int .i32 h.fs.op, .string h.fs.path, dv, av, .int .i32 h.fs.ver, .int .i64 h.fs.ses, .int .i32 h.fs.tmo, pv, ov, .bool h.seq, kv, .int .i64 h.ases], .pointer (some ⟨E, 0, none⟩)] w fun e w' => e = .returned (.tuple #[]) ∧ EncS w' E W.heap.size (xs ++ encFields h.fs) ∧ Kept w w' E W.heap.size := by
  have hL := hlim
  rw [encFields_length] at hL
  have HD := Hid.mk (And.intro hd hp)
  have HW := Hid.mk hW
  have HS := Hid.mk S
  have H0 : Hid (EncS (w.alloc (.cells (cells h dv av pv ov kv) 40)) E W.heap.size xs ∧ Kept w (w.alloc (.cells (cells h dv av pv ov kv) 40)) E W.heap.size ∧ (w.alloc (.cells (cells h dv av pv ov kv) 40)).heap[w.heap.size]? = some (.cells (cells h dv av pv ov kv) 40) ∧ AclRow (w.alloc (.cells (cells h dv av pv ov kv) 40)) av h.fs.acl) :=
    ⟨H.alloc _, Kept.alloc _ _ _ _, heap_new _ _, ha.kept H (Kept.alloc _ _ _ _)⟩
  have HE : Hid (xs ++ encFields h.fs = xs ++ be4 h.fs.op ++ encStr h.fs.path ++ encBuf h.fs.data ++ encAcls h.fs.acl ++ be4 h.fs.ver ++ be8 h.fs.ses ++ be4 h.fs.tmo ++ encBuf h.fs.pw) := by
    unfold Hid encFields
    simp only [List.append_assoc]
  have hbs := hW.size
  clear H hd ha hp hW S hlim
  go_enter Tryd.func30, Tryd.ntmps30
  go_wp2_with fail
  show Calls _ _ _ (w.alloc (.cells (cells h dv av pv ov kv) 40)) _
  generalize (w.alloc (.cells (cells h dv av pv ov kv) 40)) = w0 at H0 ⊢
  generalize w.heap.size = b at H0 ⊢
  have hb0 : W.heap.size ≤ w0.heap.size := Nat.le_trans HW.out.size H0.out.2.1.size
  refine (int_any H0.out.1 hb0 (by (try simp only [List.length_append, be4_length, be8_length, encStr_length, encBuf_length]); omega) h.fs.op).mono ?_
  rintro e w1 ⟨rfl, hS, hK⟩
  have H1 := Hid.mk (And.intro hS (And.intro (H0.out.2.1.trans hK) (And.intro (kept_row H0.out.1 hK H0.out.2.2.1 (by decide) (by decide)) (H0.out.2.2.2.kept H0.out.1 hK))))
  clear hS hK H0 hb0
  have d1 := cell_in H1.out.2.2.1 3 _ rfl
  have hb1 : W.heap.size ≤ w1.heap.size := Nat.le_trans HW.out.size H1.out.2.1.size
  go_wp2_with fail
  refine (string_any H1.out.1 hb1 h.fs.path HS.out.path (by (try simp only [List.length_append, be4_length, be8_length, encStr_length, encBuf_length]); omega)).mono ?_
  rintro e w2 ⟨rfl, hS, hK⟩
  have H2 := Hid.mk (And.intro hS (And.intro (H1.out.2.1.trans hK) (And.intro (kept_row H1.out.1 hK H1.out.2.2.1 (by decide) (by decide)) (H1.out.2.2.2.kept H1.out.1 hK))))
  clear hS hK H1 hb1 d1
  have d2 := cell_in H2.out.2.2.1 4 _ rfl
  have hb2 : W.heap.size ≤ w2.heap.size := Nat.le_trans HW.out.size H2.out.2.1.size
  go_wp2_with fail
  refine (buffer_any H2.out.1 (kept_below HW.out H2.out.2.1) dv h.fs.data HD.out.1 (by (try simp only [List.length_append, be4_length, be8_length, encStr_length, encBuf_length]); omega) HS.out.data).mono ?_
  rintro e w3 ⟨rfl, hS, hK⟩
  have H3 := Hid.mk (And.intro hS (And.intro (H2.out.2.1.trans hK) (And.intro (kept_row H2.out.1 hK H2.out.2.2.1 (by decide) (by decide)) (H2.out.2.2.2.kept H2.out.1 hK))))
  clear hS hK H2 hb2 d2
  have d3 := cell_in H3.out.2.2.1 5 _ rfl
  have hb3 : W.heap.size ≤ w3.heap.size := Nat.le_trans HW.out.size H3.out.2.1.size
  go_wp2_with fail
  refine (acls_any H3.out.1 hb3 av h.fs.acl H3.out.2.2.2 HS.out.acl HS.out.strs (by (try simp only [List.length_append, be4_length, be8_length, encStr_length, encBuf_length]); omega)).mono ?_
  rintro e w4 ⟨rfl, hS, hK⟩
  have H4 := Hid.mk (And.intro hS (And.intro (H3.out.2.1.trans hK) (And.intro (kept_row H3.out.1 hK H3.out.2.2.1 (by decide) (by decide)) trivial)))
  clear hS hK H3 hb3 d3
  have d4 := cell_in H4.out.2.2.1 6 _ rfl
  have hb4 : W.heap.size ≤ w4.heap.size := Nat.le_trans HW.out.size H4.out.2.1.size
  go_wp2_with fail
  refine (int_any H4.out.1 hb4 (by (try simp only [List.length_append, be4_length, be8_length, encStr_length, encBuf_length]); omega) h.fs.ver).mono ?_
  rintro e w5 ⟨rfl, hS, hK⟩
  have H5 := Hid.mk (And.intro hS (And.intro (H4.out.2.1.trans hK) (And.intro (kept_row H4.out.1 hK H4.out.2.2.1 (by decide) (by decide)) trivial)))
  clear hS hK H4 hb4 d4
  have d5 := cell_in H5.out.2.2.1 7 _ rfl
  have hb5 : W.heap.size ≤ w5.heap.size := Nat.le_trans HW.out.size H5.out.2.1.size
  go_wp2_with fail
  refine (long_any H5.out.1 hb5 (by (try simp only [List.length_append, be4_length, be8_length, encStr_length, encBuf_length]); omega) h.fs.ses).mono ?_
  rintro e w6 ⟨rfl, hS, hK⟩
  have H6 := Hid.mk (And.intro hS (And.intro (H5.out.2.1.trans hK) (And.intro (kept_row H5.out.1 hK H5.out.2.2.1 (by decide) (by decide)) trivial)))
  clear hS hK H5 hb5 d5
  have d6 := cell_in H6.out.2.2.1 8 _ rfl
  have hb6 : W.heap.size ≤ w6.heap.size := Nat.le_trans HW.out.size H6.out.2.1.size
  go_wp2_with fail
  refine (int_any H6.out.1 hb6 (by (try simp only [List.length_append, be4_length, be8_length, encStr_length, encBuf_length]); omega) h.fs.tmo).mono ?_
  rintro e w7 ⟨rfl, hS, hK⟩
  have H7 := Hid.mk (And.intro hS (And.intro (H6.out.2.1.trans hK) (And.intro (kept_row H6.out.1 hK H6.out.2.2.1 (by decide) (by decide)) trivial)))
  clear hS hK H6 hb6 d6
  have d7 := cell_in H7.out.2.2.1 9 _ rfl
  have hb7 : W.heap.size ≤ w7.heap.size := Nat.le_trans HW.out.size H7.out.2.1.size
  go_wp2_with fail
  refine (buffer_any H7.out.1 (kept_below HW.out H7.out.2.1) pv h.fs.pw HD.out.2 (by (try simp only [List.length_append, be4_length, be8_length, encStr_length, encBuf_length]); omega) HS.out.pw).mono ?_
  rintro e w8 ⟨rfl, hS, hK⟩
  have H8 := Hid.mk (And.intro hS (And.intro (H7.out.2.1.trans hK) (And.intro (kept_row H7.out.1 hK H7.out.2.2.1 (by decide) (by decide)) trivial)))
  clear hS hK H7 hb7 d7
  go_wp2_with fail
  go_end0
  rw [HE.out]
  exact ⟨rfl, H8.out.1, H8.out.2.1⟩

end Go.Proofs.Qxb6609425aDoor
