/-
  Seat Qxb6612991aDoorRR: newColorReader: what it makes.
-/
import Derived.Test.Qxb6612991aDoorRREntry
import Derived.Deep.DeepCutAuto
namespace Go.Proofs.Qxb6612991aDoorRR
open Go.RowKit
set_option linter.unusedVariables false
set_option linter.unusedSimpArgs false

/-- The boxed layout. -/
def layObj (wd ht d ct : Int) (pv tv : Value) : Obj := .cells #[.int .i64 wd, .int .i64 ht, .int .i64 d, .int .u8 ct, .int .u8 0, pv, tv, .nilFunc, .pointer none] 37
/-- A reader. -/
def rdObj (wd ht d ct : Int) (pv tv bufv pxv env : Value) (sc : Int) : Obj := .cells #[.int .i64 wd, .int .i64 ht, .int .i64 d, .int .u8 ct, .int .u8 0, pv, tv, .nilFunc, .pointer none, bufv, pxv, env, .int .u16 sc] 51

/-- The layout's cells, as the region's loads want them. -/
abbrev LayS (L : Nat) (wd ht d ct : Int) (pv tv : Value) (w : World) : Prop :=
  w.cell? ⟨L, 0, none⟩ = some (.int .i64 wd) ∧ w.cell? ⟨L, 1, none⟩ = some (.int .i64 ht) ∧ w.cell? ⟨L, 2, none⟩ = some (.int .i64 d) ∧ w.cell? ⟨L, 3, none⟩ = some (.int .u8 ct) ∧ w.cell? ⟨L, 4, none⟩ = some (.int .u8 0) ∧ w.cell? ⟨L, 5, none⟩ = some pv ∧ w.cell? ⟨L, 6, none⟩ = some tv ∧ w.cell? ⟨L, 7, none⟩ = some .nilFunc ∧ w.cell? ⟨L, 8, none⟩ = some (.pointer none)

theorem LayS.of {L : Nat} {wd ht d ct : Int} {pv tv : Value} {w : World} (h : w.heap[L]? = some (layObj wd ht d ct pv tv)) : LayS L wd ht d ct pv tv w := by
  simp [LayS, World.cell?, h, layObj]
theorem LayS.kept {L : Nat} {wd ht d ct : Int} {pv tv : Value} {w w' : World} (h : LayS L wd ht d ct pv tv w) (hk : w'.heap[L]? = w.heap[L]?) : LayS L wd ht d ct pv tv w' := by
  have hc : ∀ o, w'.cell? ⟨L, o, none⟩ = w.cell? ⟨L, o, none⟩ := fun o => World.cell?_of_block hk
  unfold LayS at h ⊢
  rw [hc, hc, hc, hc, hc, hc, hc, hc, hc]
  exact h
theorem LayS.alloc {L : Nat} {wd ht d ct : Int} {pv tv : Value} {w : World} (h : LayS L wd ht d ct pv tv w) (o : Obj) : LayS L wd ht d ct pv tv (w.alloc o) :=
  h.kept (Below.heap_alloc _ _ _ (World.block_lt_of_cell? _ _ h.1))
theorem LayS.drew {L : Nat} {wd ht d ct : Int} {pv tv : Value} {w : World} (h : LayS L wd ht d ct pv tv w) : LayS L wd ht d ct pv tv w.drew := h
theorem LayS.drewN {L : Nat} {wd ht d ct : Int} {pv tv : Value} {w : World} (h : LayS L wd ht d ct pv tv w) (n : Nat) : LayS L wd ht d ct pv tv (w.drewN n) := h

section
variable (w : World) (A B C D E F : Obj)
theorem size_new (o : Obj) : (w.alloc o).heap.size = w.heap.size + 1 := by simp
theorem heap_new (o : Obj) : (w.alloc o).heap[w.heap.size]? = some o := (MapKept.heap_alloc w o).1
theorem heap_old (o : Obj) (k : Nat) (h : k < w.heap.size) : (w.alloc o).heap[k]? = w.heap[k]? := Below.heap_alloc w o k h
theorem six0 : ((((((w.alloc A).alloc B).alloc C).alloc D).alloc E).alloc F).heap[w.heap.size]? = some A := by
  rw [heap_old _ _ _ (by simp only [size_new]; omega), heap_old _ _ _ (by simp only [size_new]; omega), heap_old _ _ _ (by simp only [size_new]; omega), heap_old _ _ _ (by simp only [size_new]; omega), heap_old _ _ _ (by simp only [size_new]; omega), heap_new]
theorem six1 : ((((((w.alloc A).alloc B).alloc C).alloc D).alloc E).alloc F).heap[w.heap.size + 1]? = some B := by
  rw [heap_old _ _ _ (by simp only [size_new]; omega), heap_old _ _ _ (by simp only [size_new]; omega), heap_old _ _ _ (by simp only [size_new]; omega), heap_old _ _ _ (by simp only [size_new]; omega), ← size_new w A, heap_new]
theorem six3 : ((((((w.alloc A).alloc B).alloc C).alloc D).alloc E).alloc F).heap[w.heap.size + 1 + 1 + 1]? = some D := by
  rw [heap_old _ _ _ (by simp only [size_new]; omega), heap_old _ _ _ (by simp only [size_new]; omega), ← size_new w A, ← size_new _ B, ← size_new _ C, heap_new]
theorem six4 : ((((((w.alloc A).alloc B).alloc C).alloc D).alloc E).alloc F).heap[w.heap.size + 1 + 1 + 1 + 1]? = some E := by
  rw [heap_old _ _ _ (by simp only [size_new]; omega), ← size_new w A, ← size_new _ B, ← size_new _ C, ← size_new _ D, heap_new]
theorem six5 : ((((((w.alloc A).alloc B).alloc C).alloc D).alloc E).alloc F).heap[w.heap.size + 1 + 1 + 1 + 1 + 1]? = some F := by
  rw [← size_new w A, ← size_new _ B, ← size_new _ C, ← size_new _ D, ← size_new _ E, heap_new]
theorem sixB : Below w.heap.size w ((((((w.alloc A).alloc B).alloc C).alloc D).alloc E).alloc F) :=
  ((((((Below.refl _ _).alloc (Nat.le_refl _) A).alloc (by simp only [size_new]; omega) B).alloc (by simp only [size_new]; omega) C).alloc (by simp only [size_new]; omega) D).alloc (by simp only [size_new]; omega) E).alloc (by simp only [size_new]; omega) F
end

/-- What the reader's making has laid. -/
structure Made (w w' : World) (L R bb pb : Nat) (wd : Nat) (ht d ct : Int) (pv tv : Value) (n : Nat) (env : Value) (sc : Int) : Prop where
  lay : w'.heap[L]? = some (layObj (wd : Int) ht d ct pv tv)
  rd : w'.heap[R]? = some (rdObj (wd : Int) ht d ct pv tv (.slice (some ⟨bb, 0, none⟩) n n) (.slice (some ⟨pb, 0, none⟩) wd wd) env sc)
  buf : w'.heap[bb]? = some (.cells (u8a (List.replicate n 0)) 5)
  px : w'.heap[pb]? = some (.cells (u64a (List.replicate wd 0)) 56)
  gL : w.heap.size ≤ L
  gR : w.heap.size ≤ R
  gb : w.heap.size ≤ bb
  gp : w.heap.size ≤ pb
  below : Below w.heap.size w w'

theorem Made.setCell {w w' : World} {L R bb pb wd : Nat} {ht d ct : Int} {pv tv : Value} {n : Nat} {env : Value} {sc : Int} (M : Made w w' L R bb pb wd ht d ct pv tv n env sc) {b o : Nat} (v : Value) (h1 : b ≠ L) (h2 : b ≠ R) (h3 : b ≠ bb) (h4 : b ≠ pb) (h5 : w.heap.size ≤ b) : Made w (w'.setCell ⟨b, o, none⟩ v) L R bb pb wd ht d ct pv tv n env sc :=
  ⟨(Below.heap_setCell _ _ _ _ (fun e => h1 e.symm)).trans M.lay, (Below.heap_setCell _ _ _ _ (fun e => h2 e.symm)).trans M.rd, (Below.heap_setCell _ _ _ _ (fun e => h3 e.symm)).trans M.buf, (Below.heap_setCell _ _ _ _ (fun e => h4 e.symm)).trans M.px, M.gL, M.gR, M.gb, M.gp, M.below.setCell h5 v⟩

theorem heap_set {w : World} {b : Nat} {c : Array Value} {t : TypeId} (hb : w.heap[b]? = some (.cells c t)) (o : Nat) (v : Value) :
    (w.setCell ⟨b, o, none⟩ v).heap[b]? = some (.cells (c.setIfInBounds o v) t) := by
  simp [World.setCell, Array.getElem?_modify, hb]

theorem Made.apart {w w' : World} {L R bb pb wd : Nat} {ht d ct : Int} {pv tv : Value} {n : Nat} {env : Value} {sc : Int} (M : Made w w' L R bb pb wd ht d ct pv tv n env sc) : R ≠ L ∧ R ≠ bb ∧ R ≠ pb := by
  refine ⟨fun e => ?_, fun e => ?_, fun e => ?_⟩
  · have h1 := M.rd
    rw [e, M.lay] at h1
    simp [layObj, rdObj] at h1
  · have h1 := M.rd
    rw [e, M.buf] at h1
    simp [rdObj] at h1
  · have h1 := M.rd
    rw [e, M.px] at h1
    simp [rdObj] at h1

theorem Made.setScale {w w' : World} {L R bb pb wd : Nat} {ht d ct : Int} {pv tv : Value} {n : Nat} {env : Value} {sc : Int} (M : Made w w' L R bb pb wd ht d ct pv tv n env sc) (x : Int) : Made w (w'.setCell ⟨R, 12, none⟩ (.int .u16 x)) L R bb pb wd ht d ct pv tv n env x := by
  obtain ⟨a1, a2, a3⟩ := M.apart
  refine ⟨(Below.heap_setCell _ _ _ _ (fun e => a1 e.symm)).trans M.lay, ?_, (Below.heap_setCell _ _ _ _ (fun e => a2 e.symm)).trans M.buf, (Below.heap_setCell _ _ _ _ (fun e => a3 e.symm)).trans M.px, M.gL, M.gR, M.gb, M.gp, M.below.setCell M.gR _⟩
  have h := M.rd
  unfold rdObj at h ⊢
  rw [heap_set h]
  rfl
theorem Made.setEntries {w w' : World} {L R bb pb wd : Nat} {ht d ct : Int} {pv tv : Value} {n : Nat} {env : Value} {sc : Int} (M : Made w w' L R bb pb wd ht d ct pv tv n env sc) (x : Value) : Made w (w'.setCell ⟨R, 11, none⟩ x) L R bb pb wd ht d ct pv tv n x sc := by
  obtain ⟨a1, a2, a3⟩ := M.apart
  refine ⟨(Below.heap_setCell _ _ _ _ (fun e => a1 e.symm)).trans M.lay, ?_, (Below.heap_setCell _ _ _ _ (fun e => a2 e.symm)).trans M.buf, (Below.heap_setCell _ _ _ _ (fun e => a3 e.symm)).trans M.px, M.gL, M.gR, M.gb, M.gp, M.below.setCell M.gR _⟩
  have h := M.rd
  unfold rdObj at h ⊢
  rw [heap_set h]
  rfl
/-- Blocks that are laid later turn nothing of it. -/
theorem Made.kept {w w' w2 : World} {L R bb pb wd : Nat} {ht d ct : Int} {pv tv : Value} {n : Nat} {env : Value} {sc : Int} (M : Made w w' L R bb pb wd ht d ct pv tv n env sc) (hb : Below w'.heap.size w' w2) : Made w w2 L R bb pb wd ht d ct pv tv n env sc := by
  have lt : ∀ {k o}, w'.heap[k]? = some o → k < w'.heap.size := fun h => (Array.getElem?_eq_some_iff.1 h).1
  exact ⟨(hb.block L (lt M.lay)).trans M.lay, (hb.block R (lt M.rd)).trans M.rd, (hb.block bb (lt M.buf)).trans M.buf, (hb.block pb (lt M.px)).trans M.px, M.gL, M.gR, M.gb, M.gp, M.below.trans (hb.mono M.below.size)⟩

theorem Made.c11 {w w' : World} {L R bb pb wd : Nat} {ht d ct : Int} {pv tv : Value} {n : Nat} {env : Value} {sc : Int} (M : Made w w' L R bb pb wd ht d ct pv tv n env sc) : w'.cell? ⟨R, 11, none⟩ = some env := by simp [World.cell?, M.rd, rdObj]
theorem Made.c12 {w w' : World} {L R bb pb wd : Nat} {ht d ct : Int} {pv tv : Value} {n : Nat} {env : Value} {sc : Int} (M : Made w w' L R bb pb wd ht d ct pv tv n env sc) : w'.cell? ⟨R, 12, none⟩ = some (.int .u16 sc) := by simp [World.cell?, M.rd, rdObj]
theorem Made.fz {w w' : World} {L R bb pb wd : Nat} {ht d ct : Int} {pv tv : Value} {n : Nat} {env : Value} {sc : Int} (M : Made w w' L R bb pb wd ht d ct pv tv n env sc) (o : Nat) : w'.frozen? ⟨R, o, none⟩ = false := by simp [World.frozen?, M.rd, rdObj]

/-! ### the entries -/
/-- Entry i of the palette bs, its alpha out of ts. -/
def ent (bs ts : List Int) (i : Nat) : Int := px8 (bs.getD (3 * i) 0) (bs.getD (3 * i + 1) 0) (bs.getD (3 * i + 2) 0) (if i < ts.length then ts.getD i 0 else 255)
/-- the row of entries, k of them reckoned. -/
def entRow (bs ts : List Int) (m k : Nat) : List Int := (List.range m).map fun i => if i < k then ent bs ts i else 0

theorem entRow_length (bs ts : List Int) (m k : Nat) : (entRow bs ts m k).length = m := by simp [entRow]
theorem entRow_zero (bs ts : List Int) (m : Nat) : entRow bs ts m 0 = List.replicate m 0 := by
  apply List.ext_getElem
  · simp [entRow]
  · intro i h1 h2
    simp [entRow]
theorem entRow_get (bs ts : List Int) (m k i : Nat) (h : i < m) : (entRow bs ts m k).getD i 0 = if i < k then ent bs ts i else 0 := by
  simp [entRow, h]
theorem entRow_next (bs ts : List Int) (m k : Nat) (h : k < m) : (u64a (entRow bs ts m k)).setIfInBounds k (.int .u64 (ent bs ts k)) = u64a (entRow bs ts m (k + 1)) := by
  apply Array.ext_getElem?
  intro i
  by_cases e : i = k
  · subst e
    rw [Array.getElem?_setIfInBounds_self_of_lt (by simp [u64a, u64s, entRow]; omega)]
    simp [u64a, u64s, entRow, h]
  · rw [Array.getElem?_setIfInBounds_ne (fun h => e h.symm)]
    by_cases hi : i < m
    · have : (i < k) = (i < k + 1) := by
        apply propext
        omega
      simp [u64a, u64s, entRow, hi, this]
    · simp [u64a, u64s, entRow, hi]

/-- The bytes of a slice of the call's own, by its address. -/
def BytesAt (w : World) (pa : Option Addr) (bs : List Int) : Prop := (pa = none ∧ bs = []) ∨ ∃ g, pa = some ⟨g, 0, none⟩ ∧ w.heap[g]? = some (.cells (u8a bs) 5)
theorem BytesAt.is {w : World} {pa : Option Addr} {bs : List Int} (H : BytesAt w pa bs) : BytesIs w (.slice pa bs.length bs.length) bs := by
  rcases H with ⟨rfl, rfl⟩ | ⟨g, rfl, h⟩
  · exact .inl ⟨rfl, rfl⟩
  · exact .inr ⟨g, rfl, h⟩
theorem BytesAt.kept {w w' : World} {pa : Option Addr} {bs : List Int} (H : BytesAt w pa bs) (hb : Below w.heap.size w w') : BytesAt w' pa bs := by
  rcases H with ⟨rfl, rfl⟩ | ⟨g, rfl, h⟩
  · exact .inl ⟨rfl, rfl⟩
  · exact .inr ⟨g, rfl, (hb.block g (Array.getElem?_eq_some_iff.1 h).1).trans h⟩

end Go.Proofs.Qxb6612991aDoorRR
