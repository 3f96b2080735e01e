/-
  Seat Qxb6609425aDoor: the encoder: what it holds; AppendUint32, AppendUint64, AppendString.
-/
import Derived.Test.Qxb6609425aDoorSmall
import Derived.OwnWalk
import Derived.Lib.AppendStr
import Derived.Deep.RegionHeld3
namespace Go.Proofs.Qxb6609425aDoor
open Go.RowKit
set_option linter.unusedVariables false
set_option linter.unusedSimpArgs false

theorem info5 : (Tryd.prog.info? 5).map (fun i => (i.zero, i.size, i.bytes)) = some (some (.int .u8 0), 1, 1) := by kernel_rfl

/-- A slice of the call's own that holds these bytes. -/
def Own (w : World) (base : Nat) (v : Value) (xs : List UInt8) : Prop := w.ownsRow base 5 1 v xs.length (xs.map bv)

theorem Own.alloc {w : World} {base : Nat} {v : Value} {xs : List UInt8} (h : Own w base v xs) (o : Obj) : Own (w.alloc o) base v xs := World.ownsRow.alloc h o
theorem Own.drewN {w : World} {base : Nat} {v : Value} {xs : List UInt8} (h : Own w base v xs) (n : Nat) : Own (w.drewN n) base v xs := h

theorem rows_form {w : World} {base : Nat} {v : Value} {n : Nat} {xs : List Value} (h : w.ownsRow base 5 1 v n xs) (hn : 0 < n) : ∃ g cap, v = .slice (some ⟨g, 0, none⟩) n cap := by
  obtain ⟨_, h2⟩ := h
  rcases h2 with ⟨_, h3⟩ | ⟨g, cap, cur, h3, _⟩
  · omega
  · exact ⟨g, cap, h3⟩

theorem grown_trans {a b c : World} {row : Option Nat} (h : a.grownBy b row) (k : b.grownBy c row) : a.grownBy c row :=
  ⟨k.os.trans h.os, k.tape.trans h.tape, k.output.trans h.output, Nat.le_trans h.size k.size, fun i hi hr => (k.block i (Nat.lt_of_lt_of_le hi h.size) hr).trans (h.block i hi hr)⟩

theorem bytes_be4 (v : Nat) : (Lib.beBytes 4 v).map bv = [Value.int .u8 ((v / 256 / 256 / 256 % 256 : Nat) : Int), Value.int .u8 ((v / 256 / 256 % 256 : Nat) : Int), Value.int .u8 ((v / 256 % 256 : Nat) : Int), Value.int .u8 ((v % 256 : Nat) : Int)] := by
  simp only [Lib.beBytes, Lib.leBytes, List.reverse_cons, List.reverse_nil, List.nil_append, List.cons_append, List.map, bv, Lib.toUInt8_mod]

set_option maxHeartbeats 1600000 in
set_option maxRecDepth 100000 in
theorem au32 (w : World) (base : Nat) (v : Value) (xs : List UInt8) (x : Nat) (hx : x < 4294967296) (hown : Own w base v xs) (hb : base ≤ w.heap.size) (hlim : xs.length + 4 ≤ 140737488355328) :
    Calls Tryd.prog 39 #[.agg #[], v, .int .u32 (x : Int)] w fun e w' => ∃ g cap, e = .returned (.slice (some ⟨g, 0, none⟩) (xs.length + 4) cap) ∧ Own w' base (.slice (some ⟨g, 0, none⟩) (xs.length + 4) cap) (xs ++ Lib.beBytes 4 x) ∧ w.grownBy w' v.ownBlock := by
  obtain ⟨i0, hi, hz0, hz1, hz2⟩ := info_parts info5
  have e0 : ((x % 256 : Nat) : Int) = (x : Int) % 256 := by omega
  have e1 : ((x / 256 % 256 : Nat) : Int) = (x : Int) / 256 % 256 := by omega
  have e2 : ((x / 256 / 256 % 256 : Nat) : Int) = (x : Int) / 65536 % 256 := by omega
  have e3 : ((x / 256 / 256 / 256 % 256 : Nat) : Int) = (x : Int) / 16777216 := by omega
  have hbb : Hid ((Lib.beBytes 4 x).map bv = [Value.int .u8 ((x : Int) / 16777216), Value.int .u8 ((x : Int) / 65536 % 256), Value.int .u8 ((x : Int) / 256 % 256), Value.int .u8 ((x : Int) % 256)]) := by
    unfold Hid
    rw [bytes_be4, e0, e1, e2, e3]
  clear e0 e1 e2 e3
  go_enter Tryd.func39, Tryd.ntmps39
  go_wp2_with (at_builtin; refine wpList_append_own _ rfl _ _ 23 rfl base 5 i0 (.int .u8 0) 1 1 Tryd.underlying23 hi hz0 hz1 hz2 rfl (by decide) _ _ _ rfl ((World.ownsRow.alloc hown _).alloc _) _ 4 4 [Value.int .u8 ((x : Int) / 16777216), Value.int .u8 ((x : Int) / 65536 % 256), Value.int .u8 ((x : Int) / 256 % 256), Value.int .u8 ((x : Int) % 256)] rfl rfl ?c1 ?c2 ?c3 ?c4 ?c5 ?_)
  case c1 =>
    intro j u hj
    match j, hj with
    | 0, hj => simp at hj; subst hj; simp [Addr.add]
    | 1, hj => simp at hj; subst hj; simp [Addr.add]
    | 2, hj => simp at hj; subst hj; simp [Addr.add]
    | 3, hj => simp at hj; subst hj; simp [Addr.add]
  case c2 => intro u hu; simp at hu; rcases hu with rfl | rfl | rfl | rfl <;> rfl
  case c3 => unfold maxLen; omega
  case c4 => omega
  case c5 => simp; omega
  intro v' w2 hown' hgrow _
  obtain ⟨g, cap, rfl⟩ := rows_form hown' (by omega)
  have HO := Hid.mk (And.intro hown' hgrow)
  clear hown' hgrow
  go_wp2
  go_ret
  refine ⟨g, cap, rfl, ?_, grown_trans (grown_trans (World.grownBy_alloc _ _ _) (World.grownBy_alloc _ _ _)) HO.out.2⟩
  unfold Own
  rw [List.map_append, hbb.out, List.length_append, Lib.beBytes_length]
  exact HO.out.1

theorem bytes_be8 (v : Nat) : (Lib.beBytes 8 v).map bv = [Value.int .u8 ((v / 256 / 256 / 256 / 256 / 256 / 256 / 256 % 256 : Nat) : Int), Value.int .u8 ((v / 256 / 256 / 256 / 256 / 256 / 256 % 256 : Nat) : Int), Value.int .u8 ((v / 256 / 256 / 256 / 256 / 256 % 256 : Nat) : Int), Value.int .u8 ((v / 256 / 256 / 256 / 256 % 256 : Nat) : Int), Value.int .u8 ((v / 256 / 256 / 256 % 256 : Nat) : Int), Value.int .u8 ((v / 256 / 256 % 256 : Nat) : Int), Value.int .u8 ((v / 256 % 256 : Nat) : Int), Value.int .u8 ((v % 256 : Nat) : Int)] := by
  simp only [Lib.beBytes, Lib.leBytes, List.reverse_cons, List.reverse_nil, List.nil_append, List.cons_append, List.map, bv, Lib.toUInt8_mod]

set_option maxHeartbeats 3200000 in
set_option maxRecDepth 100000 in
theorem au64 (w : World) (base : Nat) (v : Value) (xs : List UInt8) (x : Nat) (hx : x < 18446744073709551616) (hown : Own w base v xs) (hb : base ≤ w.heap.size) (hlim : xs.length + 8 ≤ 140737488355328) :
    Calls Tryd.prog 35 #[.agg #[], v, .int .u64 (x : Int)] w fun e w' => ∃ g cap, e = .returned (.slice (some ⟨g, 0, none⟩) (xs.length + 8) cap) ∧ Own w' base (.slice (some ⟨g, 0, none⟩) (xs.length + 8) cap) (xs ++ Lib.beBytes 8 x) ∧ w.grownBy w' v.ownBlock := by
  obtain ⟨i0, hi, hz0, hz1, hz2⟩ := info_parts info5
  have e0 : ((x / 256 / 256 / 256 / 256 / 256 / 256 / 256 % 256 : Nat) : Int) = (x : Int) / 72057594037927936 := by omega
  have e1 : ((x / 256 / 256 / 256 / 256 / 256 / 256 % 256 : Nat) : Int) = (x : Int) / 281474976710656 % 256 := by omega
  have e2 : ((x / 256 / 256 / 256 / 256 / 256 % 256 : Nat) : Int) = (x : Int) / 1099511627776 % 256 := by omega
  have e3 : ((x / 256 / 256 / 256 / 256 % 256 : Nat) : Int) = (x : Int) / 4294967296 % 256 := by omega
  have e4 : ((x / 256 / 256 / 256 % 256 : Nat) : Int) = (x : Int) / 16777216 % 256 := by omega
  have e5 : ((x / 256 / 256 % 256 : Nat) : Int) = (x : Int) / 65536 % 256 := by omega
  have e6 : ((x / 256 % 256 : Nat) : Int) = (x : Int) / 256 % 256 := by omega
  have e7 : ((x % 256 : Nat) : Int) = (x : Int) % 256 := by omega
  have hbb : Hid ((Lib.beBytes 8 x).map bv = [Value.int .u8 ((x : Int) / 72057594037927936), Value.int .u8 ((x : Int) / 281474976710656 % 256), Value.int .u8 ((x : Int) / 1099511627776 % 256), Value.int .u8 ((x : Int) / 4294967296 % 256), Value.int .u8 ((x : Int) / 16777216 % 256), Value.int .u8 ((x : Int) / 65536 % 256), Value.int .u8 ((x : Int) / 256 % 256), Value.int .u8 ((x : Int) % 256)]) := by
    unfold Hid
    rw [bytes_be8, e0, e1, e2, e3, e4, e5, e6, e7]
  clear e0 e1 e2 e3 e4 e5 e6 e7
  go_enter Tryd.func35, Tryd.ntmps35
  go_wp2_with (at_builtin; refine wpList_append_own _ rfl _ _ 23 rfl base 5 i0 (.int .u8 0) 1 1 Tryd.underlying23 hi hz0 hz1 hz2 rfl (by decide) _ _ _ rfl ((World.ownsRow.alloc hown _).alloc _) _ 8 8 [Value.int .u8 ((x : Int) / 72057594037927936), Value.int .u8 ((x : Int) / 281474976710656 % 256), Value.int .u8 ((x : Int) / 1099511627776 % 256), Value.int .u8 ((x : Int) / 4294967296 % 256), Value.int .u8 ((x : Int) / 16777216 % 256), Value.int .u8 ((x : Int) / 65536 % 256), Value.int .u8 ((x : Int) / 256 % 256), Value.int .u8 ((x : Int) % 256)] rfl rfl ?c1 ?c2 ?c3 ?c4 ?c5 ?_)
  case c1 =>
    intro j u hj
    match j, hj with
    | 0, hj => simp at hj; subst hj; simp [Addr.add]
    | 1, hj => simp at hj; subst hj; simp [Addr.add]
    | 2, hj => simp at hj; subst hj; simp [Addr.add]
    | 3, hj => simp at hj; subst hj; simp [Addr.add]
    | 4, hj => simp at hj; subst hj; simp [Addr.add]
    | 5, hj => simp at hj; subst hj; simp [Addr.add]
    | 6, hj => simp at hj; subst hj; simp [Addr.add]
    | 7, hj => simp at hj; subst hj; simp [Addr.add]
  case c2 => intro u hu; simp at hu; rcases hu with rfl | rfl | rfl | rfl | rfl | rfl | rfl | rfl <;> rfl
  case c3 => unfold maxLen; omega
  case c4 => omega
  case c5 => simp; omega
  intro v' w2 hown' hgrow _
  obtain ⟨g, cap, rfl⟩ := rows_form hown' (by omega)
  have HO := Hid.mk (And.intro hown' hgrow)
  clear hown' hgrow
  go_wp2
  go_ret
  refine ⟨g, cap, rfl, ?_, grown_trans (grown_trans (World.grownBy_alloc _ _ _) (World.grownBy_alloc _ _ _)) HO.out.2⟩
  unfold Own
  rw [List.map_append, hbb.out, List.length_append, Lib.beBytes_length]
  exact HO.out.1

theorem own_block {w w' : World} {base : Nat} {v v' : Value} {xs xs' : List UInt8} (h : Own w base v xs) (g : w.grownBy w' v.ownBlock) (h' : Own w' base v' xs') {c : World} (k : w'.grownBy c v'.ownBlock) (E : Nat) (o : Obj) (hE : w.heap[E]? = some o) (hne : ∀ c f, o ≠ .cells c 5 f) : w'.heap[E]? = some o ∧ c.heap[E]? = some o := by
  have ne : ∀ {w : World} {v : Value} {xs : List UInt8}, Own w base v xs → w.heap[E]? = some o → some E ≠ v.ownBlock := by
    intro w v xs h hE e
    obtain ⟨_, h2⟩ := h
    rcases h2 with ⟨rfl, _⟩ | ⟨g, cap, cur, rfl, _, hh, _⟩
    · cases e
    · cases e
      rw [hE] at hh
      exact hne _ _ (Option.some.inj hh)
  have h1 : w'.heap[E]? = some o := (g.block E (Array.getElem?_eq_some_iff.1 hE).1 (ne h hE)).trans hE
  exact ⟨h1, (k.block E (Array.getElem?_eq_some_iff.1 h1).1 (ne h' h1)).trans h1⟩

/-- Nothing turns but the rows of bytes of the call's own and the block E. -/
structure Kept (w w' : World) (E base : Nat) : Prop where
  os : w'.os = w.os
  tape : w'.tape = w.tape
  output : w'.output = w.output
  size : w.heap.size ≤ w'.heap.size
  block : ∀ k o, w.heap[k]? = some o → (k < base ∨ (k ≠ E ∧ ∀ c f, o ≠ .cells c 5 f)) → w'.heap[k]? = some o

theorem Kept.refl (w : World) (E base : Nat) : Kept w w E base := ⟨rfl, rfl, rfl, Nat.le_refl _, fun _ _ h _ => h⟩
theorem Kept.trans {a b c : World} {E base : Nat} (h : Kept a b E base) (k : Kept b c E base) : Kept a c E base :=
  ⟨k.os.trans h.os, k.tape.trans h.tape, k.output.trans h.output, Nat.le_trans h.size k.size, fun i o hi hc => k.block i o (h.block i o hi hc) hc⟩
theorem Kept.below {w w' : World} {E base : Nat} (h : Below w.heap.size w w') : Kept w w' E base :=
  ⟨h.os, h.tape, h.output, h.size, fun k o hk _ => (h.block k (Array.getElem?_eq_some_iff.1 hk).1).trans hk⟩
theorem Kept.drewN (w : World) (E base n : Nat) : Kept w (w.drewN n) E base := ⟨rfl, rfl, rfl, Nat.le_refl _, fun _ _ h _ => h⟩
theorem Kept.set {w : World} {E base : Nat} (hE : base ≤ E) (o : Nat) (v : Value) : Kept w (w.setCell ⟨E, o, none⟩ v) E base :=
  ⟨rfl, rfl, rfl, by simp [World.setCell], fun k o' hk hc => (Below.heap_setCell _ _ _ _ (by rcases hc with h | h <;> (try simp only) <;> omega)).trans hk⟩
theorem Kept.grown {w w' : World} {E base : Nat} {v : Value} {xs : List UInt8} (h : Own w base v xs) (g : w.grownBy w' v.ownBlock) : Kept w w' E base := by
  refine ⟨g.os, g.tape, g.output, g.size, fun k o hk hc => (g.block k (Array.getElem?_eq_some_iff.1 hk).1 ?_).trans hk⟩
  intro e
  obtain ⟨_, h2⟩ := h
  rcases h2 with ⟨rfl, _⟩ | ⟨g', cap, cur, rfl, hb, hh, _⟩
  · cases e
  · cases e
    rcases hc with hc | hc
    · exact absurd hb (Nat.not_le.2 hc)
    · rw [hk] at hh
      exact hc.2 _ _ (Option.some.inj hh)
theorem Kept.toBelow {w w' : World} {E base : Nat} (h : Kept w w' E base) (hb : base ≤ w.heap.size) : Below base w w' :=
  ⟨h.os, h.tape, h.output, h.size, fun k hk => by
    have hh : w.heap[k]? = some (w.heap[k]'(by omega)) := Array.getElem?_eq_getElem (by omega)
    rw [hh]
    exact h.block k _ hh (.inl hk)⟩

end Go.Proofs.Qxb6609425aDoor
