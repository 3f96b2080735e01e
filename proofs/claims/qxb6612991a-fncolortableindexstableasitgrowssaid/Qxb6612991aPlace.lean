/-
  Seat Qxb6612991a: ZZcolorPlace; appending a number to a slice of the call's own.
-/
import Derived.Test.Qxb6612991aSlot
import Derived.RegionTactic
import Derived.OwnWalk
namespace Go.Proofs.Qxb6612991a
open Go.RowKit
set_option linter.unusedVariables false

/-- 'append(xs, x)' on a slice of the call's own, of 64-bit numbers: the value's shape is written out. -/
theorem wpList_append_one {P : Program} (w : World) {ops : Array Oper} {rest : List Oper} {o : Oper} {a : Act} {Q : Exit → Act → World → Prop} (hgd : o.guard = none) (s x : Operand) (t : TypeId)
    (ho : o.op = .call { callee := .builtin .append, args := #[s, x], argTypes := #[t, t] })
    (base : Nat) (e : TypeId) (ht : P.underlying t = some (.slice e)) (hinfo : (P.info? e).map (fun i => (i.zero, i.size, i.bytes)) = some (some (.int .u64 0), 1, 8))
    (v : Value) (n : Nat) (xs : List Value) (hs : a.eval s = v) (hown : w.ownsRow base e 1 v n xs)
    (ad : Addr) (c : Nat) (p : Int) (hx : a.eval x = .slice (some ad) 1 c) (hnew : w.cell? ad = some (.int .u64 p))
    (hn : n ≤ 65536) (hbase : base ≤ w.heap.size)
    (h : ∀ g cap w', w'.ownsRow base e 1 (.slice (some ⟨g, 0, none⟩) (n + 1) cap) (n + 1) (xs ++ [.int .u64 p]) → w.grownBy w' v.ownBlock → wpList P ops Q rest (a.put o.dst (.slice (some ⟨g, 0, none⟩) (n + 1) cap)) w') : wpList P ops Q (o :: rest) a w := by
  obtain ⟨i0, hi, hz0, hz1, hz2⟩ := info_parts hinfo
  refine wpList_append_own w hgd s x t ho base e i0 (.int .u64 0) 1 8 ht hi hz0 hz1 hz2 rfl (by decide) v n xs hs hown ad 1 c [.int .u64 p] hx rfl ?_ ?_ (by unfold maxLen; omega) (by omega) hbase ?_
  · intro j u hj
    match j, hj with
    | 0, hj =>
      simp at hj
      subst hj
      rw [Addr.add_zero']
      exact hnew
  · intro u hu
    simp at hu
    subst hu
    rfl
  · intro v' w' hown' hg hnil
    have hsh : ∃ g cap, v' = .slice (some ⟨g, 0, none⟩) (n + 1) cap := by
      obtain ⟨_, h2⟩ := hown'
      rcases h2 with ⟨h3, h4⟩ | ⟨g, cap, cur, h3, _⟩
      · omega
      · exact ⟨g, cap, h3⟩
    obtain ⟨g, cap, rfl⟩ := hsh
    exact h g cap w' hown' hg

theorem info37 : (Try.prog.info? 37).map (fun i => (i.zero, i.size, i.bytes)) = some (some (.int .u64 0), 1, 8) := by kernel_rfl
theorem info26 : (Try.prog.info? 26).map (fun i => (i.zero, i.size, i.bytes)) = some (some (.int .u64 0), 1, 8) := by kernel_rfl

def nums (xs : List Int) : List Value := xs.map fun x => .int .u64 x

/-- v is a slice of the call's own (element type e) that holds the numbers xs. -/
def Own (w : World) (base : Nat) (e : TypeId) (v : Value) (xs : List Int) : Prop := w.ownsRow base e 1 v xs.length (nums xs)

theorem Own.row {w : World} {base : Nat} {e : TypeId} {v : Value} {xs : List Int} (H : Own w base e v xs) : RowIs w v xs := by
  have H' := H
  obtain ⟨hl, h⟩ := H
  rcases h with ⟨rfl, hn⟩ | ⟨g, cap, cur, rfl, hb, hh, hnc, hcm, hcs, ht⟩
  · exact .inl ⟨rfl, List.length_eq_zero_iff.1 hn⟩
  · refine .inr ⟨g, cap, rfl, fun i hi => ?_⟩
    have := H'.cells (g := g) rfl i (.int .u64 (xs.getD i 0)) (by simp [nums, List.getElem?_eq_getElem hi])
    rw [Addr.add_lit, Nat.zero_add] at this
    exact this

theorem Own.nil (w : World) (base : Nat) (e : TypeId) : Own w base e (.slice none 0 0) [] := World.ownsRow_nil w base e 1

theorem Own.obj {w : World} {base : Nat} {e : TypeId} {v : Value} {xs : List Int} (H : Own w base e v xs) {k : Nat} (hk : v.ownBlock = some k) : base ≤ k ∧ ∃ c, w.heap[k]? = some (.cells c e) := by
  obtain ⟨hl, h⟩ := H
  rcases h with ⟨rfl, hn⟩ | ⟨g, cap, cur, rfl, hb, hh, hnc, hcm, hcs, ht⟩
  · cases hk
  · cases hk
    exact ⟨hb, cur, hh⟩

theorem TabIs.obj {w : World} {tb : Nat} {vc : Value} {sl : Nat → Nat} (T : TabIs w tb vc sl) : ∃ c, w.heap[tb]? = some (.cells c 36) := by
  obtain ⟨o, ho, c, rfl, _⟩ := T
  exact ⟨c, ho⟩
theorem TabIs.lt {w : World} {tb : Nat} {vc : Value} {sl : Nat → Nat} (T : TabIs w tb vc sl) : tb < w.heap.size := by
  obtain ⟨o, ho, _⟩ := T
  exact (Array.getElem?_eq_some_iff.1 ho).1
theorem TabIs.kept {w w' : World} {tb : Nat} {vc : Value} {sl : Nat → Nat} (T : TabIs w tb vc sl) (h : w'.heap[tb]? = w.heap[tb]?) : TabIs w' tb vc sl := by
  obtain ⟨o, ho, r⟩ := T
  exact ⟨o, h.trans ho, r⟩

/-- The table's block is none of the call's slices'. -/
theorem Own.ne_tab {w : World} {base : Nat} {e : TypeId} {v : Value} {xs : List Int} (H : Own w base e v xs) (he : e ≠ 36) {tb : Nat} {vc : Value} {sl : Nat → Nat} (T : TabIs w tb vc sl) : some tb ≠ v.ownBlock := by
  intro h
  obtain ⟨_, c, hc⟩ := H.obj h.symm
  obtain ⟨c', hc'⟩ := T.obj
  rw [hc] at hc'
  simp at hc'
  exact he hc'.2
/-- Two slices of two element types share no block. -/
theorem Own.ne_own {w : World} {base : Nat} {e e' : TypeId} {v v' : Value} {xs xs' : List Int} (H : Own w base e v xs) (H' : Own w base e' v' xs') (he : e ≠ e') : v.ownBlock = none ∨ v.ownBlock ≠ v'.ownBlock := by
  cases h : v.ownBlock with
  | none => exact .inl rfl
  | some k =>
    refine .inr fun h' => ?_
    obtain ⟨_, c, hc⟩ := H.obj h
    obtain ⟨_, c', hc'⟩ := H'.obj h'.symm
    rw [hc] at hc'
    simp at hc'
    exact he hc'.2

theorem heap_set {w : World} {b : Nat} {c : Array Value} {t : TypeId} (hb : w.heap[b]? = some (.cells c t)) (o : Nat) (v : Value) :
    (w.setCell ⟨b, o, none⟩ v).heap[b]? = some (.cells (c.setIfInBounds o v) t) := by
  simp [World.setCell, Array.getElem?_modify, hb]
theorem grown_set (w : World) (b o : Nat) (v : Value) : w.grownBy (w.setCell ⟨b, o, none⟩ v) (some b) :=
  ⟨rfl, rfl, rfl, by simp [World.setCell], fun k _ hk => Below.heap_setCell _ _ _ _ (fun e => hk (by rw [e]))⟩

theorem TabIs.setColors {w : World} {tb : Nat} {vc : Value} {sl : Nat → Nat} (T : TabIs w tb vc sl) (v : Value) : TabIs (w.setCell ⟨tb, 0, none⟩ v) tb v sl := by
  obtain ⟨o, ho, c, rfl, hs, h0, hc⟩ := T
  refine ⟨_, heap_set ho 0 v, _, rfl, by simpa using hs, ?_, fun s hs' => ?_⟩
  · rw [Array.getElem?_setIfInBounds_self_of_lt (by omega)]
  · rw [Array.getElem?_setIfInBounds_ne (by omega)]
    exact hc s hs'
theorem TabIs.setSlot {w : World} {tb : Nat} {vc : Value} {sl : Nat → Nat} (T : TabIs w tb vc sl) {r : Nat} (hr : r < 1024) (n : Nat) : TabIs (w.setCell ⟨tb, 1 + r, none⟩ (.int .u16 (n : Int))) tb vc (put sl r n) := by
  obtain ⟨o, ho, c, rfl, hs, h0, hc⟩ := T
  refine ⟨_, heap_set ho (1 + r) _, _, rfl, by simpa using hs, ?_, fun s hs' => ?_⟩
  · rw [Array.getElem?_setIfInBounds_ne (by omega)]
    exact h0
  · by_cases e : s = r
    · subst e
      rw [Nat.add_comm 1 s, Array.getElem?_setIfInBounds_self_of_lt (by omega), put_same]
    · rw [Array.getElem?_setIfInBounds_ne (by omega), put_other sl n e]
      exact hc s hs'

/-- What a step of the call has left alone: all that lay there before, but for the table's block and one slice's. -/
structure Kept (w w' : World) (tb : Nat) (row : Option Nat) : Prop where
  os : w'.os = w.os
  tape : w'.tape = w.tape
  output : w'.output = w.output
  size : w.heap.size ≤ w'.heap.size
  block : ∀ k, k < w.heap.size → k ≠ tb → some k ≠ row → w'.heap[k]? = w.heap[k]?

set_option maxHeartbeats 800000 in
theorem place_any {w : World} {base tb : Nat} {vc : Value} {sl : Nat → Nat} {cols : List Int} (TI : TabIs w tb vc sl) (C : Own w base 37 vc cols) (hb : base ≤ w.heap.size) (hl : cols.length < 256) (r : Nat) (hr : r < 1024) (p : Int) :
    Calls Try.prog 8 #[.pointer (some ⟨tb, 0, none⟩), .int .i64 (r : Int), .int .u64 p] w fun e w' => e = .returned (.tuple #[]) ∧ ∃ vc', TabIs w' tb vc' (put sl r (cols.length + 1)) ∧ Own w' base 37 vc' (cols ++ [p]) ∧ Kept w w' tb vc.ownBlock := by
  have hne := C.ne_tab (by decide) TI
  have c0 := TI.c0
  have f0 := TI.fz 0
  have hlt := TI.lt
  have HTI := Hid.mk TI
  have HC := Hid.mk C
  clear TI C
  have HTA : Hid (TabIs (w.alloc (.cells #[.int .u64 p] 37)) tb vc sl) := HTI.out.kept (Below.heap_alloc _ _ _ hlt)
  go_enter Try.func8, Try.ntmps8
  go_wp2_with (at_builtin; refine wpList_append_one _ rfl _ _ 32 rfl base 37 Try.underlying32 info37 _ cols.length (nums cols) rfl (HC.out.alloc _) ⟨w.heap.size, 0, none⟩ 1 p rfl (by simp) (by omega) (by simp; omega) ?_; intro g cap w1 hown1 hg1; have T1 := HTA.out.kept (hg1.block tb (by simp; omega) hne); have d0 := T1.c0; have e0 := T1.fz 0)
  have T2 := T1.setColors (.slice (some ⟨g, 0, none⟩) (cols.length + 1) cap)
  have HG2 := Hid.mk (grown_set w1 tb 0 (.slice (some ⟨g, 0, none⟩) (cols.length + 1) cap))
  have HO2 : Hid (Own (w1.setCell ⟨tb, 0, none⟩ (.slice (some ⟨g, 0, none⟩) (cols.length + 1) cap)) base 37 (.slice (some ⟨g, 0, none⟩) (cols.length + 1) cap) (cols ++ [p])) := by
    have hO1 : Own w1 base 37 (.slice (some ⟨g, 0, none⟩) (cols.length + 1) cap) (cols ++ [p]) := by
      unfold Own nums
      rw [List.map_append, List.length_append]
      exact hown1
    exact World.ownsRow.kept hO1 HG2.out (.inr (fun e => hO1.ne_tab (by decide) T1 e.symm))
  generalize w1.setCell ⟨tb, 0, none⟩ (.slice (some ⟨g, 0, none⟩) (cols.length + 1) cap) = w2 at T2 HG2 HO2 ⊢
  have k0 := T2.c0
  have kr := T2.cs hr
  have kf := T2.fz (1 + r)
  have HT2 := Hid.mk T2
  have HG1 := Hid.mk hg1
  have hr' : (r : Int) < 1024 := by omega
  have hc' : (cols.length : Int) < 256 := by omega
  clear T2 T1 d0 e0 hown1 hg1 c0 f0
  go_region
  go_wp2
  go_end0
  have T3 := HT2.out.setSlot hr (cols.length + 1)
  have hg3 := grown_set w2 tb (1 + r) (.int .u16 ((cols.length + 1 : Nat) : Int))
  have hO3 : Own (w2.setCell ⟨tb, 1 + r, none⟩ (.int .u16 ((cols.length + 1 : Nat) : Int))) base 37 (.slice (some ⟨g, 0, none⟩) (cols.length + 1) cap) (cols ++ [p]) := World.ownsRow.kept HO2.out hg3 (.inr (fun e => HO2.out.ne_tab (by decide) HT2.out e.symm))
  refine ⟨rfl, _, T3, hO3, ?_⟩
  have ha : w.grownBy (w.alloc (.cells #[.int .u64 p] 37)) none := World.grownBy_alloc _ _ _
  have g1 := HG1.out
  have g2 := HG2.out
  have l1 := ha.size
  have l2 := g1.size
  have l3 := g2.size
  refine ⟨hg3.os.trans (g2.os.trans (g1.os.trans ha.os)), hg3.tape.trans (g2.tape.trans (g1.tape.trans ha.tape)), hg3.output.trans (g2.output.trans (g1.output.trans ha.output)), Nat.le_trans l1 (Nat.le_trans l2 (Nat.le_trans l3 hg3.size)), fun k h1 h2 h3 => ?_⟩
  show (w2.setCell ⟨tb, 1 + r, none⟩ (.int .u16 ((cols.length + 1 : Nat) : Int))).heap[k]? = _
  rw [hg3.block k (by omega) (by simp; exact h2), g2.block k (by omega) (by simp; exact h2), g1.block k (by omega) h3, ha.block k h1 (by simp)]

end Go.Proofs.Qxb6612991a
