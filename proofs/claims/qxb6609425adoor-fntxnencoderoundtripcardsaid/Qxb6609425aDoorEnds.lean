/-
  Seat Qxb6609425aDoor: cloneBytes, ZZnewEncoder, ZZencoderBytes, NewDecoder.
-/
import Derived.Test.Qxb6609425aDoorEnc7
import Derived.Test.Qxb6609425aDoorDec5
namespace Go.Proofs.Qxb6609425aDoor
open Go.RowKit
set_option linter.unusedVariables false
set_option linter.unusedSimpArgs false

def u8s (bs : List UInt8) : List Value := bs.map bv
/-- a row of bytes: a name that the walk leaves alone. -/
def u8a (bs : List UInt8) : Array Value := (u8s bs).toArray
theorem size5 : (Tryd.prog.info? 5).map (·.size) = some 1 := by kernel_rfl

theorem run_make23 (n : Nat) (h : n ≤ 16777216) (w : World) : (Instr.makeSlice 23 (.int .i64 (n : Int)) (.int .i64 (n : Int))).run Tryd.prog w = .ok (.slice (some ⟨w.heap.size, 0, none⟩) n n) (w.alloc (.cells (u8a (List.replicate n 0)) 5)) := by
  obtain ⟨i, hi, hz0, hz1, hz2⟩ := info_parts info5
  have := run_make (P := Tryd.prog) w 23 5 i (.int .u8 0) Tryd.underlying23 hi hz0 .i64 .i64 (n : Int) (n : Int) (by omega) (Int.le_refl _) (by rw [hz2]; omega) (by omega)
  rw [hz1] at this
  have e : madeCells (Value.int .u8 0).cells (n * 1) = u8a (List.replicate n 0) := by
    unfold u8a u8s
    rw [Nat.mul_one, List.map_replicate]
    have : bv 0 = Value.int .u8 0 := rfl
    rw [this, ← toList_madeCells_one]
    simp [Value.cells]
  simp only [Int.toNat_natCast] at this
  rw [e] at this
  exact this

theorem setRow_new (w : World) (c c' : Array Value) (t : TypeId) : (w.alloc (.cells c t)).setRow w.heap.size c' = w.alloc (.cells c' t) := by
  unfold World.setRow World.alloc
  simp only [World.mk.injEq, and_true]
  apply Array.ext_getElem?
  intro i
  simp only [Array.getElem?_modify, Array.getElem?_push]
  by_cases e : w.heap.size = i
  · subst e
    simp
  · have e' : ¬ i = w.heap.size := fun h => e h.symm
    simp [e, e']

theorem run_clone (w : World) (x : Addr) (len cap : Nat) (bs : List UInt8) (hb : bs.length = len) (hc : ∀ i, i < len → w.cell? (x.add i) = some (bv (bs.getD i 0))) (ty : TypeId) :
    (Builtin.copy_ #[23, 23] ty #[.slice (some ⟨w.heap.size, 0, none⟩) len len, .slice (some x) len cap]).run Tryd.prog (w.alloc (.cells (u8a (List.replicate len 0)) 5)) = .ok (.int .i64 (len : Int)) (w.alloc (.cells (u8a bs) 5)) := by
  have hl : (u8s bs).length = len := by simp [u8s, hb]
  have := run_copy_row (P := Tryd.prog) (w.alloc (.cells (u8a (List.replicate len 0)) 5)) 23 23 ty 5 w.heap.size 0 len len x len cap (u8a (List.replicate len 0)) 5 (u8s bs) Tryd.underlying23 size5
    (MapKept.heap_alloc w _).1 (by simp [hl]) ?_ (by simp [u8a, u8s, hb]) (by simp [u8s]; intros; rfl)
  · rw [setRow_new] at this
    rw [this]
    simp [hl, goInt, u8a, u8s, hb]
  · intro j v hj
    have hjl : j < bs.length := by
      have := (List.getElem?_eq_some_iff.1 hj).1
      simpa [u8s] using this
    have hv : v = bv (bs.getD j 0) := by
      simp [u8s, List.getElem?_eq_getElem hjl] at hj
      simp [List.getElem?_eq_getElem hjl, ← hj]
    rw [World.cell?_of_block (Below.heap_alloc w _ _ (World.block_lt_of_cell? _ _ (hc j (by omega)))), hc j (by omega), hv]

/-- The bytes, or none. -/
def byt : Option (List UInt8) → List UInt8
  | none => []
  | some bs => bs

theorem own_made (w : World) (base : Nat) (hb : base ≤ w.heap.size) (bs : List UInt8) (hl : bs.length ≤ 1048576) : Own (w.alloc (.cells (u8a bs) 5)) base (.slice (some ⟨w.heap.size, 0, none⟩) bs.length bs.length) bs := by
  refine ⟨by simp, .inr ⟨w.heap.size, bs.length, u8a bs, rfl, hb, (MapKept.heap_alloc w _).1, Nat.le_refl _, by unfold maxLen; omega, by simp [u8a, u8s], ?_⟩⟩
  rw [Nat.mul_one]
  unfold u8a u8s
  exact List.take_of_length_le (by simp)

theorem clone_any {W w : World} (hW : Below W.heap.size W w) (v : Value) (o : Option (List UInt8)) (hv : BytesIn W v o) (hl : wBuf o ≤ 1048576) :
    Calls Tryd.prog 5 #[v] w fun e w' => ∃ v', e = .returned v' ∧ Own w' W.heap.size v' (byt o) ∧ IsSl v' ∧ Below w.heap.size w w' := by
  have hq := eql23
  rcases hv with ⟨rfl, rfl⟩ | ⟨x, c, bs, rfl, rfl, hx⟩
  · go_enter Tryd.func5, Tryd.ntmps5
    go_wp2
    go_ret
    exact ⟨_, rfl, World.ownsRow_nil _ _ _ _, ⟨_, _, _, rfl⟩, Below.refl _ _⟩
  · have hbs : bs.length ≤ 1048576 := hl
    have hmk := run_make23 bs.length (by omega)
    have hcp := run_clone w x bs.length c bs rfl (fun i hi => below_cells hW _ _ (hx i hi))
    have HW := Hid.mk hW
    clear hx hW
    go_enter Tryd.func5, Tryd.ntmps5
    go_wp2
    go_ret
    exact ⟨_, rfl, own_made w _ HW.out.size bs hbs, ⟨_, _, _, rfl⟩, (Below.refl _ _).alloc (Nat.le_refl _) _⟩

theorem newEnc_any (w : World) (base : Nat) (hb : base ≤ w.heap.size) (v : Value) (hs : IsSl v) (xs : List UInt8) (hO : Own w base v xs) :
    Calls Tryd.prog 6 #[v] w fun e w' => ∃ E, e = .returned (.pointer (some ⟨E, 0, none⟩)) ∧ EncS w' E base xs ∧ Below w.heap.size w w' := by
  obtain ⟨a, l, c, rfl⟩ := hs
  have HO := Hid.mk hO
  clear hO
  go_enter Tryd.func6, Tryd.ntmps6
  go_wp2
  go_ret
  exact ⟨w.heap.size, rfl, ⟨_, heap_new _ _, HO.out.alloc _, hb⟩, (Below.refl _ _).alloc (Nat.le_refl _) _⟩

theorem encBytes_any {w : World} {E base : Nat} {xs : List UInt8} (H : EncS w E base xs) :
    Calls Tryd.prog 9 #[.pointer (some ⟨E, 0, none⟩)] w fun e w' => ∃ v, e = .returned v ∧ Own w base v xs ∧ w = w' := by
  obtain ⟨v, hE, hO, _⟩ := H
  have hc := EncS.cell hE
  have HO := Hid.mk hO
  clear hE hO
  go_enter Tryd.func9, Tryd.ntmps9
  go_wp2
  go_ret
  exact ⟨v, rfl, HO.out, rfl⟩

theorem newDec_any (w : World) (a : Option Addr) (l c : Nat) :
    Calls Tryd.prog 10 #[.slice a l c] w fun e w' => e = .returned (.pointer (some ⟨w.heap.size, 0, none⟩)) ∧ w.alloc (.cells #[.slice a l c, .nilIface] 67) = w' := by
  go_enter Tryd.func10, Tryd.ntmps10
  go_wp2
  go_ret
  exact ⟨rfl, rfl⟩

end Go.Proofs.Qxb6609425aDoor
