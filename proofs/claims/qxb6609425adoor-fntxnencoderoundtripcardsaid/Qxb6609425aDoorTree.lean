/-
  Seat Qxb6609425aDoor: the change that came in, with the bounds of its lengths.
-/
import Derived.Test.Qxb6609425aDoorSmall
namespace Go.Proofs.Qxb6609425aDoor
open Go.RowKit
set_option linter.unusedVariables false
set_option linter.unusedSimpArgs false

/-- No length is beyond an int. -/
structure Lens (h : Head) : Prop where
  path : h.fs.path.size ≤ 9223372036854775807
  data : wBuf h.fs.data ≤ 9223372036854775807
  pw : wBuf h.fs.pw ≤ 9223372036854775807
  acl : h.fs.acl.length ≤ 9223372036854775807
  ask : h.ask.length ≤ 9223372036854775807
  acls : ∀ a ∈ h.fs.acl, a.scheme.size ≤ 9223372036854775807 ∧ a.id.size ≤ 9223372036854775807
  asks : ∀ a ∈ h.ask, a.1.size ≤ 9223372036854775807 ∧ a.2.size ≤ 9223372036854775807

/-- The change t lies in the cells cs: its own cells, its slices' cells; at each op likewise. -/
def TxIn (w : World) : Nat → Array Value → Tx → Prop
  | 0, _, _ => False
  | m + 1, cs, t => ∃ (dv av pv ov kv : Value) (css : List (Array Value)), cs = cells t.head dv av pv ov kv ∧ (Fits t.head ∧ Lens t.head ∧ t.ops.length ≤ 9223372036854775807) ∧ BytesIn w dv t.head.fs.data ∧ AclsIn w av t.head.fs.acl ∧ BytesIn w pv t.head.fs.pw ∧ OpsIn w ov css ∧ AskIn w kv t.head.ask ∧
      css.length = t.ops.length ∧ ∀ i, i < t.ops.length → TxIn w m (css.getD i #[]) (t.ops.getD i default)

theorem TxIn.size {w : World} {m : Nat} {cs : Array Value} {t : Tx} (H : TxIn w m cs t) : cs.size = 14 := by
  cases m with
  | zero => exact H.elim
  | succ m =>
    obtain ⟨dv, av, pv, ov, kv, css, rfl, _⟩ := H
    rfl

theorem TxIn.more {w : World} : ∀ {m : Nat} {cs : Array Value} {t : Tx}, TxIn w m cs t → TxIn w (m + 1) cs t
  | 0, _, _, h => h.elim
  | m + 1, cs, t, h => by
    obtain ⟨dv, av, pv, ov, kv, css, h1, h2, h3, h4, h5, h6, h7, h8, h9⟩ := h
    exact ⟨dv, av, pv, ov, kv, css, h1, h2, h3, h4, h5, h6, h7, h8, fun i hi => TxIn.more (h9 i hi)⟩

theorem BytesIn.len {w : World} {v : Value} {o : Option (List UInt8)} (h : BytesIn w v o) : ∃ a c, v = .slice a (wBuf o) c := by
  rcases h with ⟨rfl, rfl⟩ | ⟨x, c, bs, rfl, rfl, _⟩
  · exact ⟨none, 0, rfl⟩
  · exact ⟨some x, c, rfl⟩
theorem AclsIn.len {w : World} {v : Value} {l : List Acl} (h : AclsIn w v l) : ∃ a c, v = .slice a l.length c := by
  rcases h with ⟨rfl, rfl⟩ | ⟨x, c, rfl, _⟩
  · exact ⟨none, 0, rfl⟩
  · exact ⟨some x, c, rfl⟩
theorem AskIn.len {w : World} {v : Value} {l : List (ByteArray × ByteArray)} (h : AskIn w v l) : ∃ a c, v = .slice a l.length c := by
  rcases h with ⟨rfl, rfl⟩ | ⟨x, c, rfl, _⟩
  · exact ⟨none, 0, rfl⟩
  · exact ⟨some x, c, rfl⟩
theorem OpsIn.len {w : World} {v : Value} {l : List (Array Value)} (h : OpsIn w v l) : ∃ a c, v = .slice a l.length c := by
  rcases h with ⟨rfl, rfl⟩ | ⟨x, c, rfl, _⟩
  · exact ⟨none, 0, rfl⟩
  · exact ⟨some x, c, rfl⟩

/-- What is reckoned ahead of the lists. -/
def wLen (t : Tx) : Nat := t.head.fs.path.size + wBuf t.head.fs.data + wBuf t.head.fs.pw + 40 * t.head.fs.acl.length + 32 * t.head.ask.length + 200 * t.ops.length
def sumAcl (l : List Acl) (k : Nat) : Nat := ((l.take k).map wAcl).sum
def sumAsk (l : List (ByteArray × ByteArray)) (k : Nat) : Nat := ((l.take k).map wAsk).sum
def sumOps (m : Nat) (l : List Tx) (k : Nat) : Nat := ((l.take k).map (wt m)).sum

theorem sumAcl_next (l : List Acl) (k : Nat) (h : k < l.length) : sumAcl l (k + 1) = sumAcl l k + ((l.getD k default).scheme.size + (l.getD k default).id.size) := by
  unfold sumAcl
  rw [List.take_add_one, List.map_append, List.sum_append, List.getD_eq_getElem?_getD, List.getElem?_eq_getElem h]
  rfl
theorem sumAsk_next (l : List (ByteArray × ByteArray)) (k : Nat) (h : k < l.length) : sumAsk l (k + 1) = sumAsk l k + ((l.getD k default).1.size + (l.getD k default).2.size) := by
  unfold sumAsk
  rw [List.take_add_one, List.map_append, List.sum_append, List.getD_eq_getElem?_getD, List.getElem?_eq_getElem h]
  rfl
theorem sumOps_next (m : Nat) (l : List Tx) (k : Nat) (h : k < l.length) : sumOps m l (k + 1) = sumOps m l k + wt m (l.getD k default) := by
  unfold sumOps
  rw [List.take_add_one, List.map_append, List.sum_append, List.getD_eq_getElem?_getD, List.getElem?_eq_getElem h]
  rfl
theorem wt_eq (m : Nat) (t : Tx) : wt (m + 1) t = wLen t + sumAcl t.head.fs.acl t.head.fs.acl.length + sumAsk t.head.ask t.head.ask.length + sumOps m t.ops t.ops.length := by
  unfold wt wHead wLen sumAcl sumAsk sumOps
  rw [List.take_length, List.take_length, List.take_length]
  omega
theorem sum_take_le (l : List Nat) (k : Nat) : (l.take k).sum ≤ l.sum := by
  conv => rhs; rw [← List.take_append_drop k l]
  rw [List.sum_append]
  omega
theorem sumOps_le (m : Nat) (l : List Tx) (k : Nat) : sumOps m l k ≤ sumOps m l l.length := by
  unfold sumOps
  rw [List.take_length, List.map_take]
  exact sum_take_le _ _

end Go.Proofs.Qxb6609425aDoor
