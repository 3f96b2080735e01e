/-
  Seat Qxb6612991aDoorRR: byte slices of the call's own; cloneBytes, sameBytes, samplesOf and the small readers: contracts.
-/
import Derived.Test.Qxb6612991aDoorRRRows
import Derived.WalkKit
import Derived.WalkSpells
import Derived.WalkLawsBesides
import Derived.Laws.CopyRow
import Derived.Laws.MakeOwn
import Derived.BigQuiet
import Derived.Deep.QuietTactic
import Derived.Lib.LazyBuf
namespace Go.Proofs.Qxb6612991aDoorRR
open Go.RowKit
set_option linter.unusedVariables false
set_option linter.unusedSimpArgs false

theorem Hid.mk {p : Prop} (h : p) : Hid p := h

def u8s (bs : List Int) : List Value := bs.map fun x => .int .u8 x
def u64s (bs : List Int) : List Value := bs.map fun x => .int .u64 x
/-- rows of bytes, of 64-bit numbers: names that the walk leaves alone. -/
def u8a (bs : List Int) : Array Value := (u8s bs).toArray
def u64a (bs : List Int) : Array Value := (u64s bs).toArray

theorem info5 : (Tryd.prog.info? 5).map (fun i => (i.zero, i.size, i.bytes)) = some (some (.int .u8 0), 1, 1) := by kernel_rfl
theorem info56 : (Tryd.prog.info? 56).map (fun i => (i.zero, i.size, i.bytes)) = some (some (.int .u64 0), 1, 8) := by kernel_rfl
theorem size5 : (Tryd.prog.info? 5).map (·.size) = some 1 := by kernel_rfl

theorem run_make22 (n : Nat) (h : n ≤ 16777216) (w : World) : (Instr.makeSlice 22 (.int .i64 (n : Int)) (.int .i64 (n : Int))).run Tryd.prog w = .ok (.slice (some ⟨w.heap.size, 0, none⟩) n n) (w.alloc (.cells (u8a (List.replicate n 0)) 5)) := by
  obtain ⟨i, hi, hz0, hz1, hz2⟩ := info_parts info5
  have := run_make (P := Tryd.prog) w 22 5 i (.int .u8 0) Tryd.underlying22 hi hz0 .i64 .i64 (n : Int) (n : Int) (by omega) (Int.le_refl _) (by rw [hz2]; omega) (by omega)
  rw [hz1] at this
  have e : madeCells (Value.int .u8 0).cells (n * 1) = u8a (List.replicate n 0) := by
    unfold u8a u8s
    rw [Nat.mul_one, List.map_replicate, ← toList_madeCells_one]
    simp [Value.cells]
  simp only [Int.toNat_natCast] at this
  rw [e] at this
  exact this

theorem run_make48 (n : Nat) (h : n ≤ 16777216) (w : World) : (Instr.makeSlice 48 (.int .i64 (n : Int)) (.int .i64 (n : Int))).run Tryd.prog w = .ok (.slice (some ⟨w.heap.size, 0, none⟩) n n) (w.alloc (.cells (u64a (List.replicate n 0)) 56)) := by
  obtain ⟨i, hi, hz0, hz1, hz2⟩ := info_parts info56
  have := run_make (P := Tryd.prog) w 48 56 i (.int .u64 0) Tryd.underlying48 hi hz0 .i64 .i64 (n : Int) (n : Int) (by omega) (Int.le_refl _) (by rw [hz2]; omega) (by omega)
  rw [hz1] at this
  have e : madeCells (Value.int .u64 0).cells (n * 1) = u64a (List.replicate n 0) := by
    unfold u64a u64s
    rw [Nat.mul_one, List.map_replicate, ← toList_madeCells_one]
    simp [Value.cells]
  simp only [Int.toNat_natCast] at this
  rw [e] at this
  exact this

theorem setRow_new (w : World) (c c' : Array Value) (t : TypeId) : (w.alloc (.cells c t)).setRow w.heap.size c' = w.alloc (.cells c' t) := by
  unfold World.setRow World.alloc
  simp only [World.mk.injEq, and_true]
  apply Array.ext_getElem?
  intro i
  simp only [Array.getElem?_modify, Array.getElem?_push]
  by_cases e : w.heap.size = i
  · subst e
    simp
  · have e' : ¬ i = w.heap.size := fun h => e h.symm
    simp [e, e']

theorem run_clone (w : World) (x : Addr) (len cap : Nat) (bs : List Int) (hb : bs.length = len) (hc : ∀ i, i < len → w.cell? (x.add i) = some (.int .u8 (bs.getD i 0))) (ty : TypeId) :
    (Builtin.copy_ #[22, 22] ty #[.slice (some ⟨w.heap.size, 0, none⟩) len len, .slice (some x) len cap]).run Tryd.prog (w.alloc (.cells (u8a (List.replicate len 0)) 5)) = .ok (.int .i64 (len : Int)) (w.alloc (.cells (u8a bs) 5)) := by
  have hl : (u8s bs).length = len := by simp [u8s, hb]
  have := run_copy_row (P := Tryd.prog) (w.alloc (.cells (u8a (List.replicate len 0)) 5)) 22 22 ty 5 w.heap.size 0 len len x len cap (u8a (List.replicate len 0)) 5 (u8s bs) Tryd.underlying22 size5
    (MapKept.heap_alloc w _).1 (by simp [hl]) ?_ (by simp [u8a, u8s, hb]) (by simp [u8s]; intros; rfl)
  · rw [setRow_new] at this
    rw [this]
    simp [hl, goInt, u8a, u8s, hb]
  · intro j v hj
    have hjl : j < bs.length := by
      have := (List.getElem?_eq_some_iff.1 hj).1
      simpa [u8s] using this
    have hv : v = .int .u8 (bs.getD j 0) := by
      simp [u8s, List.getElem?_eq_getElem hjl] at hj
      simp [List.getElem?_eq_getElem hjl, ← hj]
    rw [World.cell?_of_block (Below.heap_alloc w _ _ (World.block_lt_of_cell? _ _ (hc j (by omega)))), hc j (by omega), hv]

theorem eql22 (w : World) (a : Option Addr) (l c : Nat) : (binOp .eql 22 (.slice a l c) (.slice none 0 0)).run Tryd.prog w = .ok (.bool a.isNone) w := run_eql_slice_nil w 22 5 a l c Tryd.underlying22

theorem clone_nil (w : World) : Calls Tryd.prog 7 #[.slice none 0 0] w fun e w' => e = .returned (.slice none 0 0) ∧ w = w' := by
  have hq := eql22
  go_enter Tryd.func7, Tryd.ntmps7
  go_wp2
  go_ret
  exact ⟨rfl, rfl⟩

theorem clone_some (w : World) (x : Addr) (len cap : Nat) (bs : List Int) (hlm : len ≤ 4096) (hb : bs.length = len) (hc : ∀ i, i < len → w.cell? (x.add i) = some (.int .u8 (bs.getD i 0))) :
    Calls Tryd.prog 7 #[.slice (some x) len cap] w fun e w' => e = .returned (.slice (some ⟨w.heap.size, 0, none⟩) len len) ∧ w' = w.alloc (.cells (u8a bs) 5) := by
  have hq := eql22
  have hmk := run_make22 len (by omega)
  have hcp := run_clone w x len cap bs hb hc
  clear hc
  go_enter Tryd.func7, Tryd.ntmps7
  go_wp2
  go_ret
  exact ⟨rfl, rfl⟩

/-- A byte slice of the call's own: nil, or a row of its own. -/
def BytesIs (w : World) (v : Value) (bs : List Int) : Prop :=
  (v = .slice none 0 0 ∧ bs = []) ∨ ∃ g, v = .slice (some ⟨g, 0, none⟩) bs.length bs.length ∧ w.heap[g]? = some (.cells (u8a bs) 5)

theorem cell_u8 {w : World} {g : Nat} {bs : List Int} (h : w.heap[g]? = some (.cells (u8a bs) 5)) {i : Nat} (hi : i < bs.length) : w.cell? ⟨g, i, none⟩ = some (.int .u8 (bs.getD i 0)) := by
  simp [World.cell?, h, u8a, u8s, List.getElem?_eq_getElem hi]
theorem cell_u64 {w : World} {g : Nat} {bs : List Int} (h : w.heap[g]? = some (.cells (u64a bs) 56)) {i : Nat} (hi : i < bs.length) : w.cell? ⟨g, i, none⟩ = some (.int .u64 (bs.getD i 0)) := by
  simp [World.cell?, h, u64a, u64s, List.getElem?_eq_getElem hi]

set_option maxHeartbeats 400000 in
theorem same_self (w : World) (v : Value) (bs : List Int) (H : BytesIs w v bs) (hl : bs.length ≤ 65536) :
    Calls Tryd.prog 21 #[v, v] w fun e w' => e = .returned (.bool true) ∧ ∃ n, w' = w.drewN n := by
  have hq := eql22
  rcases H with ⟨rfl, rfl⟩ | ⟨g, rfl, hg⟩
  · go_enter Tryd.func21, Tryd.ntmps21
    go_wp2
    go_loop [5] (fun t => t = .int .i64 0) (fun t => 0)
    case atStart => rfl
    case round =>
      subst hrel
      go_wp2
      go_ret
      exact ⟨rfl, 0, rfl⟩
  · have HG := Hid.mk hg
    clear hg
    go_enter Tryd.func21, Tryd.ntmps21
    go_wp2
    go_loopw [5] (fun t wr => ∃ k n : Nat, k ≤ bs.length ∧ t = .int .i64 k ∧ wr = w.drewN n) (fun t _ => bs.length - (intOf t).toNat)
    case atStart => exact ⟨0, 0, Nat.zero_le _, rfl, rfl⟩
    case round =>
      obtain ⟨k, n, hk, rfl, rfl⟩ := hrel
      by_cases hlt : k < bs.length
      · have hlt' : (k : Int) < (bs.length : Int) := by omega
        obtain ⟨y, gk⟩ : ∃ y, w.cell? ⟨g, k, none⟩ = some (.int .u8 y) := ⟨_, cell_u8 HG.out hlt⟩
        go_wp2_with fail
        go_quiet (fail)
        go_wp2
        exact ⟨⟨k + 1, _, by omega, by go_num, rfl⟩, by simp [intOf]; omega⟩
      · go_wp2
        go_ret
        exact ⟨rfl, n, rfl⟩

end Go.Proofs.Qxb6612991aDoorRR
