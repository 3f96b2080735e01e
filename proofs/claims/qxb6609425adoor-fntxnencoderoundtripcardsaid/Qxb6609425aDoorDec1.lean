/-
  Seat Qxb6609425aDoor: the decoder: take, Int.
-/
import Derived.Test.Qxb6609425aDoorEnc1
namespace Go.Proofs.Qxb6609425aDoor
open Go.RowKit
set_option linter.unusedVariables false
set_option linter.unusedSimpArgs false

/-- The decoder in block D has the bytes rest still to read; they lie in a row of bytes. -/
def DecS (w : World) (D : Nat) (rest : List UInt8) : Prop :=
  ∃ g o c arr fr, w.heap[D]? = some (.cells #[.slice (some ⟨g, o, none⟩) rest.length c, .nilIface] 67) ∧ w.heap[g]? = some (.cells arr 5 fr) ∧ (∀ i, i < rest.length → arr[o + i]? = some (bv (rest.getD i 0))) ∧ rest.length ≤ c

/-- These bytes lie there. -/
def BytesAt (w : World) (D g o : Nat) (bs : List UInt8) : Prop := g ≠ D ∧ ∃ arr fr, w.heap[g]? = some (.cells arr 5 fr) ∧ ∀ i, i < bs.length → arr[o + i]? = some (bv (bs.getD i 0))

theorem BytesAt.kept {w w' : World} {D g o : Nat} {bs : List UInt8} (B : BytesAt w D g o bs) (h : w.grownBy w' (some D)) : BytesAt w' D g o bs := by
  obtain ⟨h1, arr, fr, h2, h3⟩ := B
  exact ⟨h1, arr, fr, (h.block g (Array.getElem?_eq_some_iff.1 h2).1 (fun e => h1 (Option.some.inj e))).trans h2, h3⟩
theorem BytesAt.cell {w : World} {D g o : Nat} {bs : List UInt8} (B : BytesAt w D g o bs) (i : Nat) (hi : i < bs.length) : w.cell? ⟨g, o + i, none⟩ = some (bv (bs.getD i 0)) := by
  obtain ⟨h1, arr, fr, h2, h3⟩ := B
  simp [World.cell?, h2, h3 i hi]

theorem below_drewN {B : Nat} {W w : World} (h : Below B W w) (n : Nat) : Below B W (w.drewN n) := ⟨h.os, h.tape, h.output, h.size, h.block⟩

theorem set_grown (w : World) (D o : Nat) (v : Value) : w.grownBy (w.setCell ⟨D, o, none⟩ v) (some D) :=
  ⟨rfl, rfl, rfl, by simp [World.setCell], fun k _ hk => Below.heap_setCell _ _ _ _ (fun e => hk (by rw [e]))⟩

theorem heap_set' {w : World} {b : Nat} {c : Array Value} {t : TypeId} (hb : w.heap[b]? = some (.cells c t)) (o : Nat) (v : Value) :
    (w.setCell ⟨b, o, none⟩ v).heap[b]? = some (.cells (c.setIfInBounds o v) t) := by
  simp [World.setCell, Array.getElem?_modify, hb]

theorem getD_left (bs rest : List UInt8) (i : Nat) (h : i < bs.length) : (bs ++ rest).getD i 0 = bs.getD i 0 := by
  simp [List.getD_eq_getElem?_getD, List.getElem?_append_left h]
theorem getD_right (bs rest : List UInt8) (i : Nat) : (bs ++ rest).getD (bs.length + i) 0 = rest.getD i 0 := by
  simp [List.getD_eq_getElem?_getD, List.getElem?_append_right]

set_option maxHeartbeats 1600000 in
theorem take_any {w : World} {D : Nat} (bs rest : List UInt8) (H : DecS w D (bs ++ rest)) (n : Nat) (hn : bs.length = n) (hl : n + rest.length ≤ 140737488355328) :
    Calls Tryd.prog 27 #[.pointer (some ⟨D, 0, none⟩), .int .i64 (n : Int)] w fun e w' => ∃ g o, e = .returned (.slice (some ⟨g, o, none⟩) n n) ∧ BytesAt w' D g o bs ∧ DecS w' D rest ∧ w.grownBy w' (some D) := by
  obtain ⟨g, o, c, arr, fr, hD, hgr, hb, hc⟩ := H
  rw [List.length_append, hn] at hD hb hc
  have hg : g ≠ D := by
    rintro rfl
    rw [hD] at hgr
    cases hgr
  have c0 : w.cell? ⟨D, 0, none⟩ = some (.slice (some ⟨g, o, none⟩) (n + rest.length) c) := by simp [World.cell?, hD]
  have c1 : w.cell? ⟨D, 1, none⟩ = some .nilIface := by simp [World.cell?, hD]
  have f0 : w.frozen? ⟨D, 0, none⟩ = false := by simp [World.frozen?, hD]
  have HB := Hid.mk hb
  have HD := Hid.mk hD
  have HG : Hid (∀ v, (w.setCell ⟨D, 0, none⟩ v).heap[g]? = some (.cells arr 5 fr)) := fun v => (Below.heap_setCell _ _ _ _ hg).trans hgr
  have HL : Hid (∀ i, i < bs.length → arr[o + i]? = some (bv (bs.getD i 0))) := fun i hi => by
    have := hb i (by omega)
    rw [getD_left _ _ _ hi] at this
    exact this
  have HR : Hid (∀ i, i < rest.length → arr[o + n + i]? = some (bv (rest.getD i 0))) := fun i hi => by
    have := hb (n + i) (by omega)
    rw [← hn, getD_right, hn, ← Nat.add_assoc] at this
    exact this
  clear hb hD hgr
  have hr : (n : Int) ≤ ((n + rest.length : Nat) : Int) := by omega
  by_cases hcn : c = n
  · subst hcn
    have hr0 : rest = [] := List.length_eq_zero_iff.1 (by omega)
    subst hr0
    go_enter Tryd.func27, Tryd.ntmps27
    go_wp2
    go_ret
    refine ⟨g, o, rfl, ⟨hg, arr, fr, HG.out _, HL.out⟩, ⟨g, o, 0, arr, fr, ?_, HG.out _, fun i hi => by simp at hi, by simp⟩, set_grown _ _ _ _⟩
    rw [heap_set' HD.out]
    simp
  · go_enter Tryd.func27, Tryd.ntmps27
    go_wp2
    go_ret
    refine ⟨g, o, rfl, ⟨hg, arr, fr, HG.out _, HL.out⟩, ⟨g, o + n, c - n, arr, fr, ?_, HG.out _, HR.out, by omega⟩, set_grown _ _ _ _⟩
    rw [heap_set' HD.out]
    simp

set_option maxHeartbeats 1600000 in
set_option maxRecDepth 100000 in
theorem u32_any (w : World) (g o : Nat) (b0 b1 b2 b3 : UInt8) (c0 : w.cell? ⟨g, o, none⟩ = some (.int .u8 b0.toNat)) (c1 : w.cell? ⟨g, o + 1, none⟩ = some (.int .u8 b1.toNat)) (c2 : w.cell? ⟨g, o + 2, none⟩ = some (.int .u8 b2.toNat)) (c3 : w.cell? ⟨g, o + 3, none⟩ = some (.int .u8 b3.toNat)) :
    Calls Tryd.prog 33 #[.agg #[], .slice (some ⟨g, o, none⟩) 4 4] w fun e w' => e = .returned (.int .u32 (Lib.beNat [b0, b1, b2, b3])) ∧ Below w.heap.size w w' := by
  have h0 : b0.toNat < 256 := b0.toNat_lt
  have h1 : b1.toNat < 256 := b1.toNat_lt
  have h2 : b2.toNat < 256 := b2.toNat_lt
  have h3 : b3.toNat < 256 := b3.toNat_lt
  have d0 := below_cells ((Below.refl _ w).alloc (Nat.le_refl _) (.cells #[] 83)) _ _ c0
  have d1 := below_cells ((Below.refl _ w).alloc (Nat.le_refl _) (.cells #[] 83)) _ _ c1
  have d2 := below_cells ((Below.refl _ w).alloc (Nat.le_refl _) (.cells #[] 83)) _ _ c2
  have d3 := below_cells ((Below.refl _ w).alloc (Nat.le_refl _) (.cells #[] 83)) _ _ c3
  have hv : ((Lib.beNat [b0, b1, b2, b3] : Nat) : Int) = (b3.toNat : Int) + (b2.toNat : Int) * 256 + (b1.toNat : Int) * 65536 + (b0.toNat : Int) * 16777216 := by
    simp only [Lib.beNat, Lib.beFrom]
    push_cast
    omega
  have HV := Hid.mk hv
  clear hv
  go_enter Tryd.func33, Tryd.ntmps33
  go_wp2
  go_quiet (fail)
  go_wp2
  go_ret
  refine ⟨?_, below_drewN ((Below.refl _ w).alloc (Nat.le_refl _) _) _⟩
  simp (disch := omega) only [u32_or8, u32_or16, u32_or24]
  rw [HV.out]
  rfl

end Go.Proofs.Qxb6609425aDoor
