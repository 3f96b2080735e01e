/-
  Seat Qxb6609425aDoor: the encoder: bools, buffers.
-/
import Derived.Test.Qxb6609425aDoorEnc3
namespace Go.Proofs.Qxb6609425aDoor
open Go.RowKit
set_option linter.unusedVariables false
set_option linter.unusedSimpArgs false

theorem own_len {w : World} {base : Nat} {v : Value} {xs : List UInt8} (h : Own w base v xs) : w.ownsRow base 5 1 v xs.length (xs.map bv) := h

set_option maxHeartbeats 1600000 in
theorem bool_any {w : World} {E base : Nat} {xs : List UInt8} (H : EncS w E base xs) (hb : base ≤ w.heap.size) (b : Bool) (hlim : xs.length + 1 ≤ 140737488355328) :
    Calls Tryd.prog 32 #[.pointer (some ⟨E, 0, none⟩), .bool b] w fun e w' => e = .returned (.tuple #[]) ∧ EncS w' E base (xs ++ [seqByte b]) ∧ Kept w w' E base := by
  obtain ⟨v, hE, hO, hbE⟩ := H
  obtain ⟨i0, hi, hz0, hz1, hz2⟩ := info_parts info5
  have hc := EncS.cell hE
  have hEl : E < w.heap.size := (Array.getElem?_eq_some_iff.1 hE).1
  have HE := Hid.mk hE
  have HO := Hid.mk hO
  clear hE hO
  cases b
  · go_enter Tryd.func32, Tryd.ntmps32
    go_wp2_with (at_builtin; refine wpList_append_own _ rfl _ _ 23 rfl base 5 i0 (.int .u8 0) 1 1 Tryd.underlying23 hi hz0 hz1 hz2 rfl (by decide) _ _ _ rfl (World.ownsRow.alloc (own_len HO.out) _) _ 1 1 [Value.int .u8 0] rfl rfl ?c1 ?c2 ?c3 ?c4 ?c5 ?_)
    case c1 =>
      intro j u hj
      match j, hj with
      | 0, hj => simp at hj; subst hj; simp [Addr.add]
    case c2 => intro u hu; simp at hu; subst hu; rfl
    case c3 => unfold maxLen; omega
    case c4 => omega
    case c5 => simp; omega
    intro v2 w2 hO2 hg2 _
    obtain ⟨g2, cap2, rfl⟩ := rows_form hO2 (by omega)
    have hO3 : Own w2 base (.slice (some ⟨g2, 0, none⟩) (xs.length + 1) cap2) (xs ++ [seqByte false]) := by
      unfold Own
      rw [List.length_append, List.map_append]
      exact hO2
    have HG := Hid.mk (And.intro hO3 (fun E0 => (Kept.below (E := E0) (base := base) ((Below.refl _ w).alloc (Nat.le_refl _) (.cells #[.int .u8 0] 5))).trans (Kept.grown (HO.out.alloc _) hg2)))
    clear hO2 hg2 hO3
    have c1 := EncS.cell (kept_enc HE.out HG.out.2)
    have f1 := EncS.fz (kept_enc HE.out HG.out.2)
    go_wp2_with fail
    go_end0
    have hN := enc_next' HE.out hbE HG.out.1 HG.out.2
    exact ⟨rfl, hN.1, hN.2⟩
  · go_enter Tryd.func32, Tryd.ntmps32
    go_wp2_with (at_builtin; refine wpList_append_own _ rfl _ _ 23 rfl base 5 i0 (.int .u8 0) 1 1 Tryd.underlying23 hi hz0 hz1 hz2 rfl (by decide) _ _ _ rfl (World.ownsRow.alloc (own_len HO.out) _) _ 1 1 [Value.int .u8 1] rfl rfl ?c1 ?c2 ?c3 ?c4 ?c5 ?_)
    case c1 =>
      intro j u hj
      match j, hj with
      | 0, hj => simp at hj; subst hj; simp [Addr.add]
    case c2 => intro u hu; simp at hu; subst hu; rfl
    case c3 => unfold maxLen; omega
    case c4 => omega
    case c5 => simp; omega
    intro v2 w2 hO2 hg2 _
    obtain ⟨g2, cap2, rfl⟩ := rows_form hO2 (by omega)
    have hO3 : Own w2 base (.slice (some ⟨g2, 0, none⟩) (xs.length + 1) cap2) (xs ++ [seqByte true]) := by
      unfold Own
      rw [List.length_append, List.map_append]
      exact hO2
    have HG := Hid.mk (And.intro hO3 (fun E0 => (Kept.below (E := E0) (base := base) ((Below.refl _ w).alloc (Nat.le_refl _) (.cells #[.int .u8 1] 5))).trans (Kept.grown (HO.out.alloc _) hg2)))
    clear hO2 hg2 hO3
    have c1 := EncS.cell (kept_enc HE.out HG.out.2)
    have f1 := EncS.fz (kept_enc HE.out HG.out.2)
    go_wp2_with fail
    go_end0
    have hN := enc_next' HE.out hbE HG.out.1 HG.out.2
    exact ⟨rfl, hN.1, hN.2⟩

theorem kept_below {W w w' : World} {E : Nat} (hW : Below W.heap.size W w) (k : Kept w w' E W.heap.size) : Below W.heap.size W w' := hW.trans (k.toBelow hW.size)

theorem be4_length (x : Int) : (be4 x).length = 4 := Lib.beBytes_length _ _
theorem be8_length (x : Int) : (be8 x).length = 8 := Lib.beBytes_length _ _

set_option maxHeartbeats 1600000 in
theorem buffer_any {W w : World} {E : Nat} {xs : List UInt8} (H : EncS w E W.heap.size xs) (hW : Below W.heap.size W w) (v : Value) (o : Option (List UInt8)) (hv : BytesIn W v o) (hlim : xs.length + 4 + wBuf o ≤ 140737488355328) (hs : wBuf o ≤ 1048576) :
    Calls Tryd.prog 37 #[.pointer (some ⟨E, 0, none⟩), v] w fun e w' => e = .returned (.tuple #[]) ∧ EncS w' E W.heap.size (xs ++ encBuf o) ∧ Kept w w' E W.heap.size := by
  have hq := eql23
  have hb := hW.size
  have HW := Hid.mk hW
  rcases hv with ⟨rfl, rfl⟩ | ⟨x, c, bs, rfl, rfl, hx⟩
  · have HI := Hid.mk (int_any H hb (by omega) (-1))
    clear H hW
    go_enter Tryd.func37, Tryd.ntmps37
    go_wp2_with fail
    refine HI.out.mono ?_
    rintro e w1 ⟨rfl, hS, hK⟩
    have HS := Hid.mk (And.intro hS hK)
    clear hS hK
    go_wp2_with fail
    exact bodyPost_ret (v := .tuple #[]) (by simp [results, Tryd.results37, go_sem]) rfl ⟨rfl, HS.out.1, HS.out.2⟩
  · have hbs : bs.length ≤ 1048576 := hs
    have hlim' : xs.length + 4 + bs.length ≤ 140737488355328 := hlim
    obtain ⟨i0, hi, hz0, hz1, hz2⟩ := info_parts info5
    have HI := Hid.mk (int_any H hb (by omega) (bs.length : Int))
    have HX := Hid.mk hx
    clear H hW hx
    go_enter Tryd.func37, Tryd.ntmps37
    go_wp2_with fail
    refine HI.out.mono ?_
    rintro e w1 ⟨rfl, ⟨v1, hE1, hO1, hbE⟩, hK1⟩
    have HE := Hid.mk hE1
    have HO := Hid.mk hO1
    have HK := Hid.mk hK1
    have hc := EncS.cell hE1
    have hb1 : W.heap.size ≤ w1.heap.size := Nat.le_trans hb hK1.size
    clear hE1 hO1 hK1
    have hl1 : (xs ++ be4 (bs.length : Int)).length = xs.length + 4 := by rw [List.length_append, be4_length]
    have HXX : Hid (∀ j u, (bs.map bv)[j]? = some u → w1.cell? (x.add j) = some u) := fun j u hj => by
      have hjl : j < bs.length := by
        have := (List.getElem?_eq_some_iff.1 hj).1
        simpa using this
      have e1 : (bs.map bv)[j]? = some (bv (bs.getD j 0)) := by simp [List.getElem?_eq_getElem hjl]
      rw [e1] at hj
      cases hj
      exact below_cells (kept_below HW.out HK.out) _ _ (HX.out j hjl)
    go_wp2_with (at_builtin; refine wpList_append_own _ rfl _ _ 23 rfl W.heap.size 5 i0 (.int .u8 0) 1 1 Tryd.underlying23 hi hz0 hz1 hz2 rfl (by decide) v1 (xs.length + 4) ((xs ++ be4 (bs.length : Int)).map bv) rfl (by have h := own_len HO.out; rw [hl1] at h; exact h) x bs.length c (bs.map bv) rfl (by simp) HXX.out ?c2 ?c3 ?c4 hb1 ?_)
    case c2 =>
      intro u hu
      obtain ⟨y, _, rfl⟩ := List.mem_map.1 hu
      rfl
    case c3 => unfold maxLen; omega
    case c4 => omega
    intro v2 w2 hO2 hg2 _
    obtain ⟨g2, cap2, rfl⟩ := rows_form hO2 (by omega)
    have hO3 : Own w2 W.heap.size (.slice (some ⟨g2, 0, none⟩) (xs.length + 4 + bs.length) cap2) (xs ++ encBuf (some bs)) := by
      unfold Own encBuf
      rw [← List.append_assoc, List.length_append, hl1, List.map_append, List.map_append, List.append_assoc]
      exact hO2
    have HG := Hid.mk (And.intro hO3 (fun E0 => Kept.grown (E := E0) HO.out hg2))
    clear hO2 hg2 hO3
    have c1 := EncS.cell (kept_enc HE.out HG.out.2)
    have f1 := EncS.fz (kept_enc HE.out HG.out.2)
    go_wp2_with fail
    go_end0
    have hN := enc_next' HE.out hbE HG.out.1 HG.out.2
    exact ⟨rfl, hN.1, HK.out.trans hN.2⟩

end Go.Proofs.Qxb6609425aDoor
