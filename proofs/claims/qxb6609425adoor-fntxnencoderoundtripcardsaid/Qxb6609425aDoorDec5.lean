/-
  Seat Qxb6609425aDoor: fieldsMatch.
-/
import Derived.Test.Qxb6609425aDoorDec4
namespace Go.Proofs.Qxb6609425aDoor
open Go.RowKit
set_option linter.unusedVariables false
set_option linter.unusedSimpArgs false

theorem grown_W {W w w' : World} {D : Nat} (hW : Below W.heap.size W w) (hD : W.heap.size ≤ D) (g : w.grownBy w' (some D)) : Below W.heap.size W w' :=
  hW.trans ⟨g.os, g.tape, g.output, g.size, fun k hk => g.block k (Nat.lt_of_lt_of_le hk hW.size) (fun e => by have := Option.some.inj e; omega)⟩

theorem grown_row {w w' : World} {D b : Nat} {arr : Array Value} {t : TypeId} (hb : w.heap[b]? = some (.cells arr t)) (hne : b ≠ D) (g : w.grownBy w' (some D)) : w'.heap[b]? = some (.cells arr t) :=
  (g.block b (Array.getElem?_eq_some_iff.1 hb).1 (fun e => hne (Option.some.inj e))).trans hb

theorem DecS.drewN {w : World} {D : Nat} {r : List UInt8} (H : DecS w D r) (n : Nat) : DecS (w.drewN n) D r := H
theorem grown_drewN' (w : World) (n : Nat) (row : Option Nat) : w.grownBy (w.drewN n) row := ⟨rfl, rfl, rfl, Nat.le_refl _, fun _ _ _ => rfl⟩

set_option maxRecDepth 100000 in
set_option maxHeartbeats 3200000 in
theorem match_any {W w : World} {D : Nat} (hW : Below W.heap.size W w) (hDW : W.heap.size ≤ D) (h : Head) (F : Fits h) (S : SmallF h.fs) (dv av pv ov kv : Value) (hd : BytesIn W dv h.fs.data) (ha : AclsIn W av h.fs.acl) (hp : BytesIn W pv h.fs.pw) (rest : List UInt8) (H : DecS w D (encFields h.fs ++ rest)) (hl : (encFields h.fs).length + rest.length ≤ 140737488355328) :
    Calls Tryd.prog 12 #[.pointer (some ⟨D, 0, none⟩), .agg #[.int .u64 h.zx, .int .i64 h.tm, .int .i32 h.fs.op, .string h.fs.path, dv, av, .int .i32 h.fs.ver, .int .i64 h.fs.ses, .int .i32 h.fs.tmo, pv, ov, .bool h.seq, kv, .int .i64 h.ases]] w fun e w' => e = .returned (.bool true) ∧ DecS w' D rest ∧ w.grownBy w' (some D) := by
  have hDl : D < w.heap.size := by
    obtain ⟨g, o, c, arr, fr, hD, _⟩ := H
    exact (Array.getElem?_eq_some_iff.1 hD).1
  have hlen := hl
  rw [encFields_length] at hlen
  have H0 : Hid (DecS (w.alloc (.cells (cells h dv av pv ov kv) 28)) D (be4 h.fs.op ++ (encStr h.fs.path ++ (encBuf h.fs.data ++ (encAcls h.fs.acl ++ (be4 h.fs.ver ++ (be8 h.fs.ses ++ (be4 h.fs.tmo ++ (encBuf h.fs.pw ++ rest)))))))) ∧ w.grownBy (w.alloc (.cells (cells h dv av pv ov kv) 28)) (some D) ∧ (w.alloc (.cells (cells h dv av pv ov kv) 28)).heap[w.heap.size]? = some (.cells (cells h dv av pv ov kv) 28)) := by
    refine ⟨?_, World.grownBy_alloc _ _ _, heap_new _ _⟩
    have h1 := H.below ((Below.refl _ w).alloc (Nat.le_refl _) (.cells (cells h dv av pv ov kv) 28))
    unfold encFields at h1
    simp only [List.append_assoc] at h1
    exact h1
  have HW := Hid.mk hW
  have HS := Hid.mk (And.intro F S)
  have HX := Hid.mk (And.intro hd (And.intro ha hp))
  obtain ⟨sv, hsv⟩ : ∃ s, s = h.fs.ses % 18446744073709551616 := ⟨_, rfl⟩
  have hs1 : wrap64 sv = h.fs.ses := by
    have h1 := F.ses0
    have h2 := F.ses1
    rw [hsv]
    unfold wrap64
    omega
  have HSV := Hid.mk hsv
  clear H hW F S hd ha hp hl hsv
  have hbD : w.heap.size ≠ D := by omega
  go_enter Tryd.func12, Tryd.ntmps12
  go_wp2_with fail
  show Calls _ _ _ (w.alloc (.cells (cells h dv av pv ov kv) 28)) _
  generalize (w.alloc (.cells (cells h dv av pv ov kv) 28)) = w0 at H0 ⊢
  generalize w.heap.size = b at H0 hbD ⊢
  refine (dint_any h.fs.op _ H0.out.1 HS.out.1.op0 HS.out.1.op1 (by (try simp only [List.length_append, be4_length, be8_length, encStr_length, encBuf_length]); omega)).mono ?_
  rintro e w1 ⟨rfl, hD, hG⟩
  have H1 := Hid.mk (And.intro hD (And.intro (grown_trans H0.out.2.1 hG) (grown_row H0.out.2.2 hbD hG)))
  clear hD hG H0
  go_wp2_with fail
  refine (dstr_any h.fs.path _ H1.out.1 HS.out.2.path (by (try simp only [List.length_append, be4_length, be8_length, encStr_length, encBuf_length]); omega)).mono ?_
  rintro e w2 ⟨rfl, hD, hG⟩
  have H2 := Hid.mk (And.intro hD (And.intro (grown_trans H1.out.2.1 hG) (grown_row H1.out.2.2 hbD hG)))
  clear hD hG H1
  go_wp2_with fail
  refine (sbytes_any h.fs.data _ H2.out.1 HS.out.2.data (by (try simp only [List.length_append, be4_length, be8_length, encStr_length, encBuf_length]); omega)).mono ?_
  rintro e w3 ⟨vgd, rfl, hV, hD, hG⟩
  have H3 := Hid.mk (And.intro hD (And.intro (grown_trans H2.out.2.1 hG) (And.intro (grown_row H2.out.2.2 hbD hG) hV)))
  clear hD hG hV H2
  go_wp2_with fail
  refine (dacls_any h.fs.acl _ H3.out.1 HS.out.2.acl HS.out.2.strs HS.out.1.acl0 (by (try simp only [List.length_append, be4_length, be8_length, encStr_length, encBuf_length]); omega)).mono ?_
  rintro e w4 ⟨vga, rfl, hV, hD, hG⟩
  have HA : Hid (D < w3.heap.size) := Nat.lt_of_lt_of_le hDl H3.out.2.1.size
  have H4 := Hid.mk (And.intro hD (And.intro (grown_trans H3.out.2.1 hG) (And.intro (grown_row H3.out.2.2.1 hbD hG) (And.intro (H3.out.2.2.2.kept hG) hV))))
  clear hD hG hV H3
  go_wp2_with fail
  refine (dint_any h.fs.ver _ H4.out.1 HS.out.1.ver0 HS.out.1.ver1 (by (try simp only [List.length_append, be4_length, be8_length, encStr_length, encBuf_length]); omega)).mono ?_
  rintro e w5 ⟨rfl, hD, hG⟩
  have H5 := Hid.mk (And.intro hD (And.intro (grown_trans H4.out.2.1 hG) (And.intro (grown_row H4.out.2.2.1 hbD hG) (And.intro (H4.out.2.2.2.1.kept hG) (World.ownsRow.kept H4.out.2.2.2.2 hG (.inr (fun e => by have := (World.ownsRow.lt H4.out.2.2.2.2 D e).1; have := HA.out; omega)))))))
  clear hD hG H4
  go_wp2_with fail
  refine (dlong_any h.fs.ses _ H5.out.1 (by (try simp only [List.length_append, be4_length, be8_length, encStr_length, encBuf_length]); omega)).mono ?_
  rw [← HSV.out]
  rintro e w6 ⟨rfl, hD, hG⟩
  have H6 := Hid.mk (And.intro hD (And.intro (grown_trans H5.out.2.1 hG) (And.intro (grown_row H5.out.2.2.1 hbD hG) (And.intro (H5.out.2.2.2.1.kept hG) (World.ownsRow.kept H5.out.2.2.2.2 hG (.inr (fun e => by have := (World.ownsRow.lt H5.out.2.2.2.2 D e).1; have := HA.out; omega)))))))
  clear hD hG H5
  go_wp2_with fail
  refine (dint_any h.fs.tmo _ H6.out.1 HS.out.1.tmo0 HS.out.1.tmo1 (by (try simp only [List.length_append, be4_length, be8_length, encStr_length, encBuf_length]); omega)).mono ?_
  rintro e w7 ⟨rfl, hD, hG⟩
  have H7 := Hid.mk (And.intro hD (And.intro (grown_trans H6.out.2.1 hG) (And.intro (grown_row H6.out.2.2.1 hbD hG) (And.intro (H6.out.2.2.2.1.kept hG) (World.ownsRow.kept H6.out.2.2.2.2 hG (.inr (fun e => by have := (World.ownsRow.lt H6.out.2.2.2.2 D e).1; have := HA.out; omega)))))))
  clear hD hG H6
  go_wp2_with fail
  refine (sbytes_any h.fs.pw _ H7.out.1 HS.out.2.pw (by (try simp only [List.length_append, be4_length, be8_length, encStr_length, encBuf_length]); omega)).mono ?_
  rintro e w8 ⟨vgp, rfl, hV, hD, hG⟩
  have H8 := Hid.mk (And.intro hD (And.intro (grown_trans H7.out.2.1 hG) (And.intro (grown_row H7.out.2.2.1 hbD hG) (And.intro (H7.out.2.2.2.1.kept hG) (And.intro (World.ownsRow.kept H7.out.2.2.2.2 hG (.inr (fun e => by have := (World.ownsRow.lt H7.out.2.2.2.2 D e).1; have := HA.out; omega))) hV)))))
  clear hD hG hV H7
  have hB8 := grown_W HW.out hDW H8.out.2.1
  have G1 : Hid (∀ n, BytesIn (w8.drewN n) vgd h.fs.data) := fun n => H8.out.2.2.2.1.is
  have G2 : Hid (∀ n, BytesIn (w8.drewN n) dv h.fs.data) := fun n => HX.out.1.kept (below_cells (below_drewN hB8 n))
  have G3 : Hid (∀ n, (w8.drewN n).ownsRow w3.heap.size 64 3 vga h.fs.acl.length (aclCells h.fs.acl)) := fun n => H8.out.2.2.2.2.1
  have G4 : Hid (∀ n, AclsIn (w8.drewN n) av h.fs.acl) := fun n => HX.out.2.1.kept (below_cells (below_drewN hB8 n))
  have G5 : Hid (∀ n, BytesIn (w8.drewN n) vgp h.fs.pw) := fun n => H8.out.2.2.2.2.2.is
  have G6 : Hid (∀ n, BytesIn (w8.drewN n) pv h.fs.pw) := fun n => HX.out.2.2.kept (below_cells (below_drewN hB8 n))
  clear hB8
  have d2 : w8.cell? ⟨b, 2, none⟩ = some (.int .i32 h.fs.op) := cell_in H8.out.2.2.1 2 _ rfl
  have d3 : w8.cell? ⟨b, 3, none⟩ = some (.string h.fs.path) := cell_in H8.out.2.2.1 3 _ rfl
  have d4 : w8.cell? ⟨b, 4, none⟩ = some dv := cell_in H8.out.2.2.1 4 _ rfl
  have d5 : w8.cell? ⟨b, 5, none⟩ = some av := cell_in H8.out.2.2.1 5 _ rfl
  have d6 : w8.cell? ⟨b, 6, none⟩ = some (.int .i32 h.fs.ver) := cell_in H8.out.2.2.1 6 _ rfl
  have d7 : w8.cell? ⟨b, 7, none⟩ = some (.int .i64 h.fs.ses) := cell_in H8.out.2.2.1 7 _ rfl
  have d8 : w8.cell? ⟨b, 8, none⟩ = some (.int .i32 h.fs.tmo) := cell_in H8.out.2.2.1 8 _ rfl
  have d9 : w8.cell? ⟨b, 9, none⟩ = some pv := cell_in H8.out.2.2.1 9 _ rfl
  go_wp2_with fail
  refine (sameBuffer_any w8 vgd dv h.fs.data HS.out.2.data (G1.out 0) (G2.out 0)).mono ?_
  rintro e w9 ⟨rfl, n1, rfl⟩
  go_wp2_with fail
  refine (sameACL_any _ w3.heap.size vga av h.fs.acl HS.out.2.acl (G3.out _) (G4.out _)).mono ?_
  rintro e w9 ⟨rfl, n2, rfl⟩
  go_wp2_with fail
  refine (sameBuffer_any _ vgp pv h.fs.pw HS.out.2.pw (G5.out _) (G6.out _)).mono ?_
  rintro e w9 ⟨rfl, n3, rfl⟩
  go_wp2_with fail
  go_ret
  exact ⟨rfl, H8.out.1, grown_trans H8.out.2.1 (grown_drewN' _ _ _)⟩

end Go.Proofs.Qxb6609425aDoor
