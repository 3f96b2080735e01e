/-
  Seat Qxb6609425aDoor: toTxn: the ops being copied: what is there.
-/
import Derived.Test.Qxb6609425aDoorToA
import Derived.Deep.MidRow
namespace Go.Proofs.Qxb6609425aDoor
open Go.RowKit
set_option linter.unusedVariables false
set_option linter.unusedSimpArgs false

/-- Cells written one behind the other. -/
def setN : Array Value → Nat → List Value → Array Value
  | a, _, [] => a
  | a, o, v :: vs => setN (a.setIfInBounds o v) (o + 1) vs
theorem setN_size (vs : List Value) : ∀ (a : Array Value) (o : Nat), (setN a o vs).size = a.size := by
  induction vs with
  | nil => intro a o; rfl
  | cons v vs ih => intro a o; rw [setN, ih]; simp
theorem setN_out (vs : List Value) : ∀ (a : Array Value) (o i : Nat), (i < o ∨ o + vs.length ≤ i) → (setN a o vs)[i]? = a[i]? := by
  induction vs with
  | nil => intro a o i _; rfl
  | cons v vs ih =>
    intro a o i h
    rw [List.length_cons] at h
    rw [setN, ih _ _ _ (by omega), Array.getElem?_setIfInBounds_ne (by omega)]
theorem setN_in (vs : List Value) : ∀ (a : Array Value) (o j : Nat), j < vs.length → o + vs.length ≤ a.size → (setN a o vs)[o + j]? = vs[j]? := by
  induction vs with
  | nil => intro a o j h; simp at h
  | cons v vs ih =>
    intro a o j h hs
    rw [List.length_cons] at h hs
    rw [setN]
    cases j with
    | zero =>
      show (setN (a.setIfInBounds o v) (o + 1) vs)[o]? = some v
      rw [setN_out _ _ _ _ (.inl (by omega)), Array.getElem?_setIfInBounds_self_of_lt (by omega)]
    | succ j =>
      have := ih (a.setIfInBounds o v) (o + 1) j (by omega) (by simp; omega)
      rw [show o + (j + 1) = o + 1 + j by omega, this]
      rfl

/-- .. in memory. -/
def wsetN : World → Nat → Nat → List Value → World
  | w, _, _, [] => w
  | w, g, o, v :: vs => wsetN (w.setCell ⟨g, o, none⟩ v) g (o + 1) vs
theorem wsetN_row (vs : List Value) : ∀ (w : World) (g o : Nat) (a : Array Value) (t : TypeId), w.heap[g]? = some (.cells a t) → (wsetN w g o vs).heap[g]? = some (.cells (setN a o vs) t) := by
  induction vs with
  | nil => intro w g o a t h; exact h
  | cons v vs ih => intro w g o a t h; exact ih _ _ _ _ _ (heap_set h o v)
theorem wsetN_other (vs : List Value) : ∀ (w : World) (g o k : Nat), k ≠ g → (wsetN w g o vs).heap[k]? = w.heap[k]? := by
  induction vs with
  | nil => intro w g o k _; rfl
  | cons v vs ih => intro w g o k h; exact (ih _ _ _ _ h).trans (Below.heap_setCell _ _ _ _ h)
theorem wsetN_below (vs : List Value) : ∀ (w1 w : World) (g o : Nat), w1.heap.size ≤ g → Below w1.heap.size w1 w → Below w1.heap.size w1 (wsetN w g o vs) := by
  induction vs with
  | nil => intro w1 w g o _ h; exact h
  | cons v vs ih => intro w1 w g o hg h; exact ih _ _ _ _ hg (h.setCell hg v)

/-- The ops are being copied: k of them are there. -/
structure FillO (W w1 wr : World) (g : Nat) (ts : List Tx) (k : Nat) : Prop where
  below : Below w1.heap.size w1 wr
  row : ∃ arr : Array Value, wr.heap[g]? = some (.cells arr 40) ∧ arr.size = ts.length * 14 ∧
    ∀ i, i < k → ∃ dv av pv ov' kv, (∀ j, j < 14 → arr[i * 14 + j]? = (cells (ts.getD i default).head dv av pv ov' kv)[j]?) ∧ BytesIn W dv (ts.getD i default).head.fs.data ∧ AclRow wr av (ts.getD i default).head.fs.acl ∧ BytesIn W pv (ts.getD i default).head.fs.pw ∧ IsSl ov' ∧ IsSl kv

theorem AclRow.blocks {w w' : World} {v : Value} {l : List Acl} (A : AclRow w v l) (h : ∀ (b : Nat) (arr : Array Value), w.heap[b]? = some (Obj.cells arr 64) → w'.heap[b]? = some (Obj.cells arr 64)) : AclRow w' v l := by
  rcases A with h1 | ⟨b, c, arr, h1, h2, h3⟩
  · exact .inl h1
  · exact .inr ⟨b, c, arr, h1, h _ _ h2, h3⟩

theorem FillO.next {W w1 wr w2 : World} {g : Nat} {ts : List Tx} {k : Nat} (I : FillO W w1 wr g ts k) (hg : w1.heap.size ≤ g) (hk : k < ts.length) (hb : Below wr.heap.size wr w2) (dv av pv ov kv : Value)
    (h1 : BytesIn W dv (ts.getD k default).head.fs.data) (h2 : AclRow w2 av (ts.getD k default).head.fs.acl) (h3 : BytesIn W pv (ts.getD k default).head.fs.pw) (h4 : IsSl ov) (h5 : IsSl kv) :
    FillO W w1 (wsetN w2 g (k * 14) (cells (ts.getD k default).head dv av pv ov kv).toList) g ts (k + 1) := by
  obtain ⟨hbl, arr, r1, r2, r3⟩ := I
  have hgl : g < wr.heap.size := (Array.getElem?_eq_some_iff.1 r1).1
  have r1' : w2.heap[g]? = some (.cells arr 40) := (hb.block g hgl).trans r1
  have hl : (cells (ts.getD k default).head dv av pv ov kv).toList.length = 14 := rfl
  have keep : ∀ (b : Nat) (arr' : Array Value), w2.heap[b]? = some (.cells arr' 64) → (wsetN w2 g (k * 14) (cells (ts.getD k default).head dv av pv ov kv).toList).heap[b]? = some (.cells arr' 64) := fun b arr' hh => by
    refine (wsetN_other _ _ _ _ _ ?_).trans hh
    rintro rfl
    rw [r1'] at hh
    cases hh
  refine ⟨wsetN_below _ _ _ _ _ hg (hbl.trans (hb.mono hbl.size)), _, wsetN_row _ _ _ _ _ _ r1', by rw [setN_size]; exact r2, fun i hi => ?_⟩
  by_cases e : i = k
  · subst e
    refine ⟨dv, av, pv, ov, kv, fun j hj => ?_, h1, h2.blocks keep, h3, h4, h5⟩
    rw [setN_in _ _ _ _ (by omega) (by omega)]
    simp
  · obtain ⟨dv', av', pv', ov', kv', q1, q2, q3, q4, q5, q6⟩ := r3 i (by omega)
    refine ⟨dv', av', pv', ov', kv', fun j hj => ?_, q2, (q3.blocks fun b arr' hh => (hb.block b (Array.getElem?_eq_some_iff.1 hh).1).trans hh).blocks keep, q4, q5, q6⟩
    rw [setN_out _ _ _ _ (.inl (by omega)), q1 j hj]

theorem FillO.done {W w1 wr : World} {g : Nat} {ts : List Tx} (I : FillO W w1 wr g ts ts.length) : OpRow W wr (.slice (some ⟨g, 0, none⟩) ts.length ts.length) ts := by
  obtain ⟨_, arr, h1, h2, h3⟩ := I
  exact .inr ⟨g, _, arr, rfl, h1, h3⟩
theorem FillO.spot {W w1 wr : World} {g : Nat} {ts : List Tx} {k : Nat} (I : FillO W w1 wr g ts k) (j : Nat) (hj : j < ts.length * 14) : (∃ v, wr.cell? ⟨g, j, none⟩ = some v) ∧ wr.frozen? ⟨g, j, none⟩ = false := by
  obtain ⟨_, arr, h1, h2, _⟩ := I
  exact ⟨⟨arr[j]'(by omega), cell_in h1 j _ (Array.getElem?_eq_getElem (by omega))⟩, by simp [World.frozen?, h1]⟩

theorem info40 : (Tryd.prog.info? 40).map (fun i => (i.zero, i.size, i.bytes)) = some (some (.agg #[.int .u64 0, .int .i64 0, .int .i32 0, .string ⟨#[]⟩, .slice none 0 0, .slice none 0 0, .int .i32 0, .int .i64 0, .int .i32 0, .slice none 0 0, .slice none 0 0, .bool false, .slice none 0 0, .int .i64 0]), 14, 200) := by kernel_rfl
def opZeros (n : Nat) : Array Value := madeCells #[.int .u64 0, .int .i64 0, .int .i32 0, .string ⟨#[]⟩, .slice none 0 0, .slice none 0 0, .int .i32 0, .int .i64 0, .int .i32 0, .slice none 0 0, .slice none 0 0, .bool false, .slice none 0 0, .int .i64 0] (n * 14)
theorem run_makeO (n : Nat) (h : n ≤ 1048576) (w : World) : (Instr.makeSlice 37 (.int .i64 (n : Int)) (.int .i64 (n : Int))).run Tryd.prog w = .ok (.slice (some ⟨w.heap.size, 0, none⟩) n n) (w.alloc (.cells (opZeros n) 40)) := by
  obtain ⟨i, hi, hz0, hz1, hz2⟩ := info_parts info40
  have := run_make (P := Tryd.prog) w 37 40 i (.agg #[.int .u64 0, .int .i64 0, .int .i32 0, .string ⟨#[]⟩, .slice none 0 0, .slice none 0 0, .int .i32 0, .int .i64 0, .int .i32 0, .slice none 0 0, .slice none 0 0, .bool false, .slice none 0 0, .int .i64 0]) Tryd.underlying37 hi hz0 .i64 .i64 (n : Int) (n : Int) (by omega) (by omega) (by rw [hz2]; omega) (by omega)
  rw [hz1] at this
  simp only [Int.toNat_natCast] at this
  exact this
theorem FillO.start (W w1 : World) (ts : List Tx) : FillO W w1 (w1.alloc (.cells (opZeros ts.length) 40)) w1.heap.size ts 0 :=
  ⟨(Below.refl _ _).alloc (Nat.le_refl _) _, opZeros ts.length, heap_new _ _, size_madeCells _ _, fun i hi => absurd hi (Nat.not_lt_zero _)⟩

theorem wsetN_eq (vs : List Value) : ∀ (w : World) (g o : Nat), wsetN w g o vs = w.setCells g o vs := by
  induction vs with
  | nil => intro w g o; rfl
  | cons v vs ih => intro w g o; exact ih _ _ _

theorem FillO.later {W w1 wr w2 : World} {g : Nat} {ts : List Tx} {k : Nat} (I : FillO W w1 wr g ts k) (hb : Below wr.heap.size wr w2) : FillO W w1 w2 g ts k := by
  obtain ⟨hbl, arr, r1, r2, r3⟩ := I
  refine ⟨hbl.trans (hb.mono hbl.size), arr, (hb.block g (Array.getElem?_eq_some_iff.1 r1).1).trans r1, r2, fun i hi => ?_⟩
  obtain ⟨dv', av', pv', ov', kv', q1, q2, q3, q4, q5, q6⟩ := r3 i hi
  exact ⟨dv', av', pv', ov', kv', q1, q2, q3.blocks fun b arr' hh => (hb.block b (Array.getElem?_eq_some_iff.1 hh).1).trans hh, q4, q5, q6⟩

theorem FillO.store {W w1 wr : World} {g : Nat} {ts : List Tx} {k : Nat} (I : FillO W w1 wr g ts k) (hk : k < ts.length) (h : Head) (a1 a2 a3 a4 a5 : Option Addr) (l1 l2 l3 l4 l5 c1 c2 c3 c4 c5 : Nat) :
    (Instr.storeAt 40 (.pointer (some ⟨g, k * 14, none⟩)) (.agg (cells h (.slice a1 l1 c1) (.slice a2 l2 c2) (.slice a3 l3 c3) (.slice a4 l4 c4) (.slice a5 l5 c5)))).run Tryd.prog wr = .ok () (wsetN wr g (k * 14) (cells h (.slice a1 l1 c1) (.slice a2 l2 c2) (.slice a3 l3 c3) (.slice a4 l4 c4) (.slice a5 l5 c5)).toList) := by
  rw [wsetN_eq]
  refine run_storeAt_mid wr g (k * 14) 40 _ (fun j hj => ?_) (by kernel_rfl) (by simp [cells, Value.oneCell'])
  have hj' : j < 14 := hj
  obtain ⟨⟨v, hv⟩, hf⟩ := I.spot (k * 14 + j) (by omega)
  exact ⟨by rw [hv]; rfl, hf⟩

end Go.Proofs.Qxb6609425aDoor
