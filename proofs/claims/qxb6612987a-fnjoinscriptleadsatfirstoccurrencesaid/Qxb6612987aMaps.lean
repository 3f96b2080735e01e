/-
  Seat Qxb6612987a: a map keyed by strings that the call made, told by a plain function from strings to values (whatever the element's type).
-/
import Derived.Test.Qxb6612987aRows
import Derived.Maps.OwnSet
import Derived.WalkKit
import Derived.WalkSpells
import Derived.WalkLawsBesides
namespace Go.Proofs.Qxb6612987a
open Go.RowKit Go.Maps
open Go.WideMaps (keyOf_string_mk)

def anyElem (v : Value) : Option (DataW Value × List MemPlace) := some (.held v, [])

/-- Block mb of w is a map of at most n entries which holds f. -/
def MapIs (w : World) (mb n : Nat) (f : ByteArray → Option Value) : Prop :=
  ∃ D : DataW Value, w.ownsMap Try.prog 9 anyElem mb n D ∧ ∀ s : ByteArray, Maps.has D (.string s.data.toList) = (f s).isSome ∧ ∀ z, D.atKey (.string s.data.toList) (.held z) = .held ((f s).getD z)

def upd (f : ByteArray → Option Value) (s : ByteArray) (v : Value) : ByteArray → Option Value := fun k => if k = s then some v else f k

theorem upd_same (f : ByteArray → Option Value) (s : ByteArray) (v : Value) : upd f s v s = some v := by simp [upd]
theorem upd_other (f : ByteArray → Option Value) {s k : ByteArray} (v : Value) (h : k ≠ s) : upd f s v k = f k := by simp [upd, h]

theorem law9 : Keyed Try.prog 9 := string_keyed Try.underlying9

theorem bytes_inj {a b : ByteArray} (h : a.data.toList = b.data.toList) : a = b := by
  cases a; cases b
  simp only [ByteArray.mk.injEq]
  exact Array.toList_inj.1 h

theorem MapIs.made (w : World) : MapIs (w.alloc (.map #[] 0)) w.heap.size 0 (fun _ => none) :=
  ⟨_, World.ownsMap_made w Try.prog 9 anyElem, fun _ => ⟨rfl, fun _ => rfl⟩⟩

theorem MapIs.lt {w : World} {mb n : Nat} {f : ByteArray → Option Value} (h : MapIs w mb n f) : mb < w.heap.size := by
  obtain ⟨D, hD, _⟩ := h
  exact hD.lt

theorem MapIs.isMap {w : World} {mb n : Nat} {f : ByteArray → Option Value} (h : MapIs w mb n f) : ∃ es c, w.heap[mb]? = some (.map es c) := by
  obtain ⟨D, ⟨es, c, hb, _⟩, _⟩ := h
  exact ⟨es, c, hb⟩

theorem MapIs.kept {w w' : World} {mb n : Nat} {f : ByteArray → Option Value} (h : MapIs w mb n f) (hk : w'.heap[mb]? = w.heap[mb]?) : MapIs w' mb n f := by
  obtain ⟨D, ⟨es, c, hb, r⟩, hf⟩ := h
  exact ⟨D, ⟨es, c, hk.trans hb, r⟩, hf⟩

theorem MapIs.mono {w : World} {mb n : Nat} {f : ByteArray → Option Value} (h : MapIs w mb n f) {n' : Nat} (hn : n ≤ n') : MapIs w mb n' f := by
  obtain ⟨D, hD, hf⟩ := h
  exact ⟨D, hD.mono hn, hf⟩

/-- 'm[s]'. -/
theorem MapIs.look {w : World} {mb n : Nat} {f : ByteArray → Option Value} (h : MapIs w mb n f) {t e : TypeId} (ht : Try.prog.underlying t = some (.map 9 e)) {z : Value} (hz : (zeroValue e).run Try.prog w = .ok z w) {s : ByteArray} (hs : s.size ≤ maxLen) :
    (Instr.lookup t (.map (some mb)) (.string s) false).run Try.prog w = .ok ((f s).getD z) w := by
  obtain ⟨D, hD, hf⟩ := h
  obtain ⟨v, ps, hrun, hv⟩ := hD.lookup law9 ht hz (zd := .held z) (zp := []) rfl (keyOf_string_mk Try.underlying9 hs)
  rw [(hf s).2 z] at hv
  simp only [anyElem, Option.some.injEq, Prod.mk.injEq, DataW.held.injEq] at hv
  rw [hrun, hv.1]

/-- 'v, ok := m[s]'. -/
theorem MapIs.look_ok {w : World} {mb n : Nat} {f : ByteArray → Option Value} (h : MapIs w mb n f) {t e : TypeId} (ht : Try.prog.underlying t = some (.map 9 e)) {z : Value} (hz : (zeroValue e).run Try.prog w = .ok z w) {s : ByteArray} (hs : s.size ≤ maxLen) :
    (Instr.lookup t (.map (some mb)) (.string s) true).run Try.prog w = .ok (.tuple #[(f s).getD z, .bool (f s).isSome]) w := by
  obtain ⟨D, hD, hf⟩ := h
  obtain ⟨v, ps, hrun, hv⟩ := hD.look_ok law9 ht hz (zd := .held z) (zp := []) rfl (keyOf_string_mk Try.underlying9 hs)
  rw [(hf s).2 z] at hv
  simp only [anyElem, Option.some.injEq, Prod.mk.injEq, DataW.held.injEq] at hv
  rw [hrun, hv.1, (hf s).1]

/-- 'm[s] = v'. -/
theorem MapIs.store {w : World} {mb n : Nat} {f : ByteArray → Option Value} (h : MapIs w mb n f) {t e : TypeId} (ht : Try.prog.underlying t = some (.map 9 e)) (hn : n < maxLen) {s : ByteArray} (hs : s.size ≤ maxLen) (v : Value) :
    ∃ w', (Instr.mapUpdate t (.map (some mb)) (.string s) v).run Try.prog w = .ok () w' ∧ MapIs w' mb (n + 1) (upd f s v) ∧ w.grownBy w' (some mb) := by
  obtain ⟨D, hD, hf⟩ := h
  obtain ⟨w', hrun, hown, hg⟩ := hD.update law9 ht hn (keyOf_string_mk Try.underlying9 hs) (val := v) (d := .held v) (ps := []) rfl
  refine ⟨w', hrun, ⟨_, hown, fun k => ?_⟩, hg⟩
  by_cases hk : k = s
  · subst hk
    rw [upd_same]
    have hkl : WideAt.IsKeyLit (.string k.data.toList) := trivial
    exact ⟨Maps.has_put_same hD.isMap hkl _, fun _ => Maps.atKey_put_same hD.isMap hkl _ _⟩
  · have hne : Lit.string k.data.toList ≠ Lit.string s.data.toList := fun e => hk (bytes_inj (by injection e))
    rw [upd_other _ _ hk]
    exact ⟨(Maps.has_put_other hne _).trans (hf k).1, fun z => (Maps.atKey_put_other hne _ _).trans ((hf k).2 z)⟩

section
variable (w : World) {ops : Array Oper} {rest : List Oper} {o : Oper} {a : Act} {Q : Exit → Act → World → Prop}

theorem wpList_look (hg : o.guard = none) (m x : Operand) (t : TypeId) (hop : o.op = Op.lookup t m x false)
    (e : TypeId) (ht : Try.prog.underlying t = some (.map 9 e)) (z : Value) (hz : (zeroValue e).run Try.prog w = .ok z w) (mb n : Nat) (f : ByteArray → Option Value)
    (hm : a.eval m = .map (some mb)) (hown : MapIs w mb n f) (s : ByteArray) (hx : a.eval x = .string s) (hs : s.size ≤ maxLen) (v : Value) (hv : (f s).getD z = v)
    (hK : wpList Try.prog ops Q rest (a.put o.dst v) w) :
    wpList Try.prog ops Q (o :: rest) a w := by
  refine wpList_plain hg fun K' hK' => ?_
  have hrun := hown.look ht hz hs
  rw [hv] at hrun
  unfold Oper.wp
  simp [execOp, hop, hm, hx, hrun, Result.andThen]
  exact hK' _ _ hK

theorem wpList_look_ok (hg : o.guard = none) (m x : Operand) (t : TypeId) (hop : o.op = Op.lookup t m x true)
    (e : TypeId) (ht : Try.prog.underlying t = some (.map 9 e)) (z : Value) (hz : (zeroValue e).run Try.prog w = .ok z w) (mb n : Nat) (f : ByteArray → Option Value)
    (hm : a.eval m = .map (some mb)) (hown : MapIs w mb n f) (s : ByteArray) (hx : a.eval x = .string s) (hs : s.size ≤ maxLen) (v : Value) (c : Bool) (hv : (f s).getD z = v) (hc : (f s).isSome = c)
    (hK : wpList Try.prog ops Q rest (a.put o.dst (.tuple #[v, .bool c])) w) :
    wpList Try.prog ops Q (o :: rest) a w := by
  refine wpList_plain hg fun K' hK' => ?_
  have hrun := hown.look_ok ht hz hs
  rw [hv, hc] at hrun
  unfold Oper.wp
  simp [execOp, hop, hm, hx, hrun, Result.andThen]
  exact hK' _ _ hK

theorem wpList_put (hg : o.guard = none) (m x y : Operand) (t : TypeId) (hop : o.op = Op.mapUpdate t m x y)
    (e : TypeId) (ht : Try.prog.underlying t = some (.map 9 e)) (mb n : Nat) (f : ByteArray → Option Value)
    (hm : a.eval m = .map (some mb)) (hown : MapIs w mb n f) (hn : n < maxLen) (s : ByteArray) (hx : a.eval x = .string s) (hs : s.size ≤ maxLen) (v : Value) (hy : a.eval y = v)
    (hK : ∀ w', MapIs w' mb (n + 1) (upd f s v) → w.grownBy w' (some mb) → wpList Try.prog ops Q rest (a.put o.dst undef) w') :
    wpList Try.prog ops Q (o :: rest) a w := by
  refine wpList_plain hg fun K' hK' => ?_
  obtain ⟨w', hrun, r1, r2⟩ := hown.store ht hn hs v
  unfold Oper.wp
  simp [execOp, hop, hm, hx, hy, hrun, Result.andThen]
  exact hK' _ _ (hK w' r1 r2)
end

theorem zero24 (w : World) : (zeroValue 24).run Try.prog w = .ok (.pointer none) w := by kernel_rfl
theorem zero3 (w : World) : (zeroValue 3).run Try.prog w = .ok (.int .i64 0) w := by kernel_rfl

end Go.Proofs.Qxb6612987a
