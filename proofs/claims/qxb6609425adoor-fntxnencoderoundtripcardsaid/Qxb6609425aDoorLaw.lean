/-
  Seat Qxb6609425aDoor: the plain law: what weighs little is small, and so are its bytes.
-/
import Derived.Test.Qxb6609425aDoorEnc8
import Derived.Test.Qxb6609425aDoorTree
namespace Go.Proofs.Qxb6609425aDoor
open Go.RowKit
set_option linter.unusedVariables false
set_option linter.unusedSimpArgs false

theorem mem_sum : ∀ (l : List Nat) (x : Nat), x ∈ l → x ≤ l.sum
  | [], x, h => by cases h
  | y :: l, x, h => by
    rw [List.sum_cons]
    rcases List.mem_cons.1 h with rfl | h
    · omega
    · have := mem_sum l x h
      omega

theorem acls_len (l : List Acl) : (l.flatMap encAcl).length = 12 * l.length + (l.map wAcl).sum := by
  induction l with
  | nil => rfl
  | cons a l ih =>
    rw [List.flatMap_cons, List.length_append, encAcl_length, ih, List.length_cons, List.map_cons, List.sum_cons]
    omega

theorem fields_len (F : Fields) : (encFields F).length = 36 + F.path.size + wBuf F.data + wBuf F.pw + 12 * F.acl.length + (F.acl.map wAcl).sum := by
  rw [encFields_length]
  unfold encAcls
  rw [List.length_append, be4_length, acls_len]
  omega

theorem fields_le (h : Head) : (encFields h.fs).length ≤ 40 + wHead h := by
  rw [fields_len]
  unfold wHead
  omega

theorem fields_ge (F : Fields) : 36 ≤ (encFields F).length := by
  rw [fields_len]
  omega

theorem TxIn.head_le {W : World} {m : Nat} {cs : Array Value} {t : Tx} (h : TxIn W m cs t) : wHead t.head ≤ wt m t := by
  cases m with
  | zero => exact h.elim
  | succ m =>
    unfold wt
    omega

theorem head_small {h : Head} (hw : wHead h ≤ 1048576) : SmallF h.fs := by
  unfold wHead at hw
  refine ⟨by omega, by omega, by omega, by omega, fun a ha => ?_⟩
  have := mem_sum (h.fs.acl.map wAcl) (wAcl a) (List.mem_map_of_mem ha)
  have h2 : wAcl a = a.scheme.size + a.id.size := rfl
  omega

theorem TxIn.small {W : World} {m : Nat} {cs : Array Value} {t : Tx} (h : TxIn W m cs t) (hw : wt m t ≤ 1048576) : SmallF t.head.fs := head_small (Nat.le_trans h.head_le hw)

theorem mem_getD {α : Type} [Inhabited α] (l : List α) (x : α) (h : x ∈ l) : ∃ i, i < l.length ∧ l.getD i default = x := by
  obtain ⟨i, hi, rfl⟩ := List.mem_iff_getElem.1 h
  exact ⟨i, hi, by simp [List.getD_eq_getElem?_getD, List.getElem?_eq_getElem hi]⟩

theorem op_wt (m : Nat) (t : Tx) (i : Nat) (hi : i < t.ops.length) : wt m (t.ops.getD i default) ≤ wt (m + 1) t := by
  have h1 : wt m (t.ops.getD i default) ∈ t.ops.map (wt m) := List.mem_map_of_mem (by rw [List.getD_eq_getElem?_getD, List.getElem?_eq_getElem hi]; exact List.getElem_mem hi)
  have h2 := mem_sum _ _ h1
  show _ ≤ wHead t.head + 200 * t.ops.length + (t.ops.map (wt m)).sum
  omega

theorem ops_le (t : Tx) (m : Nat) : t.ops.length ≤ wt (m + 1) t := by
  show _ ≤ wHead t.head + 200 * t.ops.length + (t.ops.map (wt m)).sum
  omega

theorem ops_bytes (m : Nat) (req : Bool) : ∀ (l : List Tx), (∀ t ∈ l, wHead t.head ≤ wt m t) → (l.flatMap (encOp req)).length ≤ 41 * l.length + (l.map (wt m)).sum
  | [], _ => by simp
  | t :: l, h => by
    have h1 := ops_bytes m req l (fun x hx => h x (List.mem_cons_of_mem _ hx))
    have h2 := h t (List.mem_cons_self)
    have h3 := fields_le t.head
    have h4 := encOp_length req t
    rw [List.flatMap_cons, List.length_append, h4, List.length_cons, List.map_cons, List.sum_cons]
    split <;> omega

theorem top_len {W : World} {m : Nat} {cs : Array Value} {t : Tx} (h : TxIn W (m + 1) cs t) (req : Bool) : (encTop req t).length ≤ 60 + wt (m + 1) t := by
  obtain ⟨dv, av, pv, ov, kv, css, _, _, _, _, _, _, _, _, h9⟩ := h
  have h1 := fields_le t.head
  have h2 := ops_bytes m req t.ops (fun x hx => by
    obtain ⟨i, hi, rfl⟩ := mem_getD t.ops x hx
    exact (h9 i hi).head_le)
  have h3 : wt (m + 1) t = wHead t.head + 200 * t.ops.length + (t.ops.map (wt m)).sum := rfl
  unfold encTop encOps
  simp only [List.length_append, be8_length]
  split
  · rw [List.length_append, be4_length]
    omega
  · simp only [List.length_nil]
    omega

theorem top_pos (req : Bool) (t : Tx) : 52 ≤ (encTop req t).length := by
  have h1 := fields_ge t.head.fs
  unfold encTop
  simp only [List.length_append, be8_length]
  omega

theorem ops_min (req : Bool) (l : List Tx) : l.length ≤ (l.flatMap (encOp req)).length := by
  induction l with
  | nil => simp
  | cons t l ih =>
    have h3 := fields_ge t.head.fs
    rw [List.flatMap_cons, List.length_append, encOp_length, List.length_cons]
    omega

theorem drop_op (req : Bool) (l : List Tx) (k : Nat) (h : k < l.length) : (l.drop k).flatMap (encOp req) = encOp req (l.getD k default) ++ (l.drop (k + 1)).flatMap (encOp req) := by
  rw [List.drop_eq_getElem_cons h, List.flatMap_cons]
  simp [List.getElem?_eq_getElem h]
theorem drop_op_le (req : Bool) (l : List Tx) (k : Nat) : ((l.drop k).flatMap (encOp req)).length ≤ (l.flatMap (encOp req)).length := by
  conv => rhs; rw [← List.take_append_drop k l]
  rw [List.flatMap_append, List.length_append]
  omega

theorem byt_len (o : Option (List UInt8)) : (byt o).length = wBuf o := by
  cases o <;> rfl

/-! ### what stays where memory only grows -/
theorem Own.below {w w' : World} {base : Nat} {v : Value} {xs : List UInt8} (h : Own w base v xs) (hb : Below w.heap.size w w') : Own w' base v xs := by
  obtain ⟨h1, h2⟩ := h
  refine ⟨h1, ?_⟩
  rcases h2 with h3 | ⟨g, cap, cur, h3, h4, h5, h6⟩
  · exact .inl h3
  · exact .inr ⟨g, cap, cur, h3, h4, (hb.block g (Array.getElem?_eq_some_iff.1 h5).1).trans h5, h6⟩

theorem EncS.below {w w' : World} {E base : Nat} {xs : List UInt8} (H : EncS w E base xs) (hb : Below w.heap.size w w') : EncS w' E base xs := by
  obtain ⟨v, h1, h2, h3⟩ := H
  exact ⟨v, (hb.block E (Array.getElem?_eq_some_iff.1 h1).1).trans h1, h2.below hb, h3⟩

/-- A row of the call's own, from its place k on, as the decoder has it. -/
theorem Own.cell {w : World} {base g cap : Nat} {n : Nat} {xs : List UInt8} (h : Own w base (.slice (some ⟨g, 0, none⟩) n cap) xs) :
    n = xs.length ∧ xs.length ≤ cap ∧ cap ≤ maxLen ∧ ∃ arr, w.heap[g]? = some (.cells arr 5) ∧ base ≤ g ∧ ∀ i, i < xs.length → arr[i]? = some (bv (xs.getD i 0)) := by
  obtain ⟨h1, h2⟩ := h
  rcases h2 with ⟨h3, _⟩ | ⟨g', cap', cur, h3, h4, h5, h6, h7, h8, h9⟩
  · cases h3
  · cases h3
    refine ⟨rfl, h6, h7, cur, h5, h4, fun i hi => ?_⟩
    have h10 : (cur.toList.take (xs.length * 1))[i]? = (xs.map bv)[i]? := by rw [h9]
    rw [List.getElem?_take, if_pos (by omega)] at h10
    rw [← Array.getElem?_toList, h10, List.getElem?_map, List.getElem?_eq_getElem hi]
    simp [List.getD_eq_getElem?_getD, List.getElem?_eq_getElem hi]

end Go.Proofs.Qxb6609425aDoor
