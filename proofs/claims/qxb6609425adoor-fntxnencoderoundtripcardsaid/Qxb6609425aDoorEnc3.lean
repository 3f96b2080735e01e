/-
  Seat Qxb6609425aDoor: the encoder: strings, buffers, bools.
-/
import Derived.Test.Qxb6609425aDoorEnc2
namespace Go.Proofs.Qxb6609425aDoor
open Go.RowKit
set_option linter.unusedVariables false
set_option linter.unusedSimpArgs false

theorem enc_next' {w w' : World} {E base : Nat} {v v' : Value} {ys : List UInt8} (hE : w.heap[E]? = some (.cells #[v] 62)) (hbE : base ≤ E) (hO' : Own w' base v' ys) (hk : ∀ E0, Kept w w' E0 base) :
    EncS (w'.setCell ⟨E, 0, none⟩ v') E base ys ∧ Kept w (w'.setCell ⟨E, 0, none⟩ v') E base := by
  have h1 : w'.heap[E]? = some (.cells #[v] 62) := (hk (E + 1)).block E _ hE (.inr ⟨by omega, fun c f e => by cases e⟩)
  refine ⟨⟨v', ?_, ?_, hbE⟩, (hk E).trans (Kept.set hbE _ _)⟩
  · rw [heap_set h1]
    rfl
  · refine World.ownsRow.kept hO' (row := some E) ⟨rfl, rfl, rfl, by simp [World.setCell], fun k _ hk => Below.heap_setCell _ _ _ _ (fun e => hk (by rw [e]))⟩ ?_
    obtain ⟨_, h2⟩ := hO'
    rcases h2 with ⟨rfl, _⟩ | ⟨g', cap, cur, rfl, _, hh, _⟩
    · exact .inl rfl
    · refine .inr fun e => ?_
      cases e
      rw [h1] at hh
      cases hh

theorem kept_enc {w w' : World} {E base : Nat} {v : Value} (hE : w.heap[E]? = some (.cells #[v] 62)) (hk : ∀ E0, Kept w w' E0 base) : w'.heap[E]? = some (.cells #[v] 62) :=
  (hk (E + 1)).block E _ hE (.inr ⟨by omega, fun c f e => by cases e⟩)

theorem strCells_bv (s : ByteArray) : Lib.strCells s = s.data.toList.map bv := by
  unfold Lib.strCells bv
  rfl

theorem size_list (s : ByteArray) : s.data.toList.length = s.size := Array.length_toList

set_option maxHeartbeats 1600000 in
set_option maxRecDepth 100000 in
theorem astr (w : World) (base : Nat) (v : Value) (xs : List UInt8) (s : ByteArray) (hown : Own w base v xs) (hb : base ≤ w.heap.size) (hs : s.size ≤ 1048576) (hlim : xs.length + 4 + s.size ≤ 140737488355328) :
    Calls Tryd.prog 40 #[v, .string s] w fun e w' => ∃ g cap, e = .returned (.slice (some ⟨g, 0, none⟩) (xs.length + 4 + s.size) cap) ∧ Own w' base (.slice (some ⟨g, 0, none⟩) (xs.length + 4 + s.size) cap) (xs ++ encStr s) ∧ ∀ E0, Kept w w' E0 base := by
  obtain ⟨i0, hi, hz0, hz1, hz2⟩ := info_parts info5
  have HA := Hid.mk (au32 w base v xs s.size (by omega) hown hb (by omega))
  have HO := Hid.mk hown
  clear hown
  go_enter Tryd.func40, Tryd.ntmps40
  go_wp2_with fail
  refine HA.out.mono ?_
  rintro e w1 ⟨g1, cap1, rfl, hO1, hg1⟩
  have HG := Hid.mk (And.intro hO1 hg1)
  have hb1 : base ≤ w1.heap.size := Nat.le_trans hb hg1.size
  clear hO1 hg1
  have hl1 : (xs ++ Lib.beBytes 4 s.size).length = xs.length + 4 := by rw [List.length_append, Lib.beBytes_length]
  go_wp2_with (at_builtin; refine Lib.wpList_append_own_string _ rfl _ _ 23 9 rfl base 5 i0 Tryd.underlying23 Tryd.underlying9 hi hz0 hz1 hz2 _ (xs.length + 4) _ rfl (by have h := HG.out.1; unfold Own at h; rw [hl1] at h; exact h) s rfl (by unfold maxLen; omega) hlim hb1 ?_; intro v2 w2 hO2 hg2 _)
  obtain ⟨g2, cap2, rfl⟩ := rows_form hO2 (by omega)
  have HG2 := Hid.mk (And.intro hO2 hg2)
  clear hO2 hg2
  go_wp2_with fail
  go_ret
  refine ⟨g2, cap2, rfl, ?_, fun E0 => (Kept.grown HO.out HG.out.2).trans (Kept.grown HG.out.1 HG2.out.2)⟩
  have h := HG2.out.1
  unfold Own
  have e4 : be4 (s.size : Int) = Lib.beBytes 4 s.size := by
    unfold be4
    congr 1
    omega
  have el : (xs ++ encStr s).length = xs.length + 4 + s.size := by
    unfold encStr
    rw [e4, List.length_append, List.length_append, Lib.beBytes_length, size_list]
    omega
  rw [el]
  rw [strCells_bv, ← List.map_append] at h
  unfold encStr
  rw [e4, ← List.append_assoc]
  exact h

set_option maxHeartbeats 1600000 in
theorem string_any {w : World} {E base : Nat} {xs : List UInt8} (H : EncS w E base xs) (hb : base ≤ w.heap.size) (s : ByteArray) (hs : s.size ≤ 1048576) (hlim : xs.length + 4 + s.size ≤ 140737488355328) :
    Calls Tryd.prog 36 #[.pointer (some ⟨E, 0, none⟩), .string s] w fun e w' => e = .returned (.tuple #[]) ∧ EncS w' E base (xs ++ encStr s) ∧ Kept w w' E base := by
  obtain ⟨v, hE, hO, hbE⟩ := H
  have hc := EncS.cell hE
  have HA := Hid.mk (astr w base v xs s hO hb hs hlim)
  have HE := Hid.mk hE
  clear hE hO
  go_enter Tryd.func36, Tryd.ntmps36
  go_wp2_with fail
  refine HA.out.mono ?_
  rintro e w1 ⟨g1, cap1, rfl, hO1, hk1⟩
  have HG := Hid.mk (And.intro hO1 hk1)
  have c1 := EncS.cell (kept_enc HE.out hk1)
  have f1 := EncS.fz (kept_enc HE.out hk1)
  clear hO1 hk1
  go_wp2_with fail
  go_end0
  have hN := enc_next' HE.out hbE HG.out.1 HG.out.2
  exact ⟨rfl, hN.1, hN.2⟩

theorem zxid_any {w : World} {E base : Nat} {xs : List UInt8} (H : EncS w E base xs) (hb : base ≤ w.heap.size) (hlim : xs.length + 8 ≤ 140737488355328) (x : Int) (h0 : 0 ≤ x) (h1 : x < 18446744073709551616) :
    Calls Tryd.prog 28 #[.pointer (some ⟨E, 0, none⟩), .int .u64 x] w fun e w' => e = .returned (.tuple #[]) ∧ EncS w' E base (xs ++ be8 x) ∧ Kept w w' E base := by
  obtain ⟨y, hy⟩ : ∃ y, y = wrap64 x := ⟨_, rfl⟩
  have e8 : Hid (be8 y = be8 x) := by
    unfold Hid be8
    congr 2
    rw [hy]
    unfold wrap64
    omega
  have HL := Hid.mk (long_any H hb hlim y)
  have hy1 : wrap64 x = y := hy.symm
  clear H hy
  go_enter Tryd.func28, Tryd.ntmps28
  go_wp2_with fail
  refine HL.out.mono ?_
  rintro e w1 ⟨rfl, hS, hK⟩
  have HS := Hid.mk (And.intro hS hK)
  clear hS hK
  go_wp2_with fail
  go_end0
  rw [← e8.out]
  exact ⟨rfl, HS.out.1, HS.out.2⟩

end Go.Proofs.Qxb6609425aDoor
