/-
  Seat Qxb6609425aDoor: the data: what lies in memory for a change, what its bytes are. No Go in sight but for the cells.
-/
import Derived.Test.Qxb6609425aDoorRows
import Derived.WalkKit
import Derived.WalkSpells
import Derived.WalkLawsBesides
import Derived.Laws.CopyRow
import Derived.Laws.MakeOwn
import Derived.Lib.LazyBuf
import Derived.Below
import Derived.OpenShut
import Derived.BigQuiet
import Derived.Deep.QuietTactic
import Derived.Deep.Slices
import Derived.Lib.Endian
import Derived.Lib.EndianMore
import Derived.Lib.EndianBits
namespace Go.Proofs.Qxb6609425aDoor
open Go.RowKit
set_option linter.unusedVariables false
set_option linter.unusedSimpArgs false

theorem Hid.mk {p : Prop} (h : p) : Hid p := h

/-- An entry of an access list. -/
structure Acl where
  perms : Int
  scheme : ByteArray
  id : ByteArray
deriving Inhabited

/-- The fields of a change from its opcode on. -/
structure Fields where
  op : Int
  path : ByteArray
  data : Option (List UInt8)
  acl : List Acl
  ver : Int
  ses : Int
  tmo : Int
  pw : Option (List UInt8)

/-- A change, but for its ops. -/
structure Head where
  zx : Int
  tm : Int
  fs : Fields
  seq : Bool
  ask : List (ByteArray × ByteArray)
  ases : Int

inductive Tx where
  | mk (h : Head) (ops : List Tx)

instance : Inhabited Fields := ⟨⟨0, ⟨#[]⟩, none, [], 0, 0, 0, none⟩⟩
instance : Inhabited Head := ⟨⟨0, 0, default, false, [], 0⟩⟩
instance : Inhabited Tx := ⟨.mk default []⟩

def Tx.head : Tx → Head
  | .mk h _ => h
def Tx.ops : Tx → List Tx
  | .mk _ l => l

/-! ### the bytes -/
def be4 (x : Int) : List UInt8 := Lib.beBytes 4 (x % 4294967296).toNat
def be8 (x : Int) : List UInt8 := Lib.beBytes 8 (x % 18446744073709551616).toNat
def encStr (s : ByteArray) : List UInt8 := be4 s.size ++ s.data.toList
def encBuf : Option (List UInt8) → List UInt8
  | none => be4 (-1)
  | some bs => be4 bs.length ++ bs
def encAcl (a : Acl) : List UInt8 := be4 a.perms ++ (encStr a.scheme ++ encStr a.id)
def encAcls (l : List Acl) : List UInt8 := be4 l.length ++ l.flatMap encAcl
def encFields (F : Fields) : List UInt8 := be4 F.op ++ (encStr F.path ++ (encBuf F.data ++ (encAcls F.acl ++ (be4 F.ver ++ (be8 F.ses ++ (be4 F.tmo ++ encBuf F.pw))))))
def seqByte (b : Bool) : UInt8 := if b then 1 else 0
def encOp (req : Bool) (t : Tx) : List UInt8 := encFields t.head.fs ++ (if req then [seqByte t.head.seq] else [])
def encOps (req : Bool) (t : Tx) : List UInt8 := if t.head.fs.op = 14 then be4 t.ops.length ++ t.ops.flatMap (encOp req) else []
def encTop (req : Bool) (t : Tx) : List UInt8 := be8 t.head.zx ++ (be8 t.head.tm ++ (encFields t.head.fs ++ encOps req t))

/-! ### what it weighs -/
def wBuf : Option (List UInt8) → Nat
  | none => 0
  | some bs => bs.length
def wAcl (a : Acl) : Nat := a.scheme.size + a.id.size
def wAsk (a : ByteArray × ByteArray) : Nat := a.1.size + a.2.size
def wHead (h : Head) : Nat := h.fs.path.size + wBuf h.fs.data + wBuf h.fs.pw + 40 * h.fs.acl.length + 32 * h.ask.length + (h.fs.acl.map wAcl).sum + (h.ask.map wAsk).sum
/-- .. to the depth m. -/
def wt : Nat → Tx → Nat
  | 0, _ => 0
  | m + 1, t => wHead t.head + 200 * t.ops.length + (t.ops.map (wt m)).sum

/-! ### how it lies in memory -/
def bv (b : UInt8) : Value := .int .u8 (b.toNat : Int)

def BytesIn (w : World) (v : Value) (o : Option (List UInt8)) : Prop :=
  (v = .slice none 0 0 ∧ o = none) ∨ ∃ x c bs, v = .slice (some x) bs.length c ∧ o = some bs ∧ ∀ i, i < bs.length → w.cell? (x.add i) = some (bv (bs.getD i 0))

def AclsIn (w : World) (v : Value) (l : List Acl) : Prop :=
  (v = .slice none 0 0 ∧ l = []) ∨ ∃ x c, v = .slice (some x) l.length c ∧ ∀ i, i < l.length → w.cell? (x.add (i * 3)) = some (.int .i32 (l.getD i default).perms) ∧ w.cell? (x.add (i * 3 + 1)) = some (.string (l.getD i default).scheme) ∧ w.cell? (x.add (i * 3 + 2)) = some (.string (l.getD i default).id)

def AskIn (w : World) (v : Value) (l : List (ByteArray × ByteArray)) : Prop :=
  (v = .slice none 0 0 ∧ l = []) ∨ ∃ x c, v = .slice (some x) l.length c ∧ ∀ i, i < l.length → w.cell? (x.add (i * 2)) = some (.string (l.getD i default).1) ∧ w.cell? (x.add (i * 2 + 1)) = some (.string (l.getD i default).2)

/-- The cells of a change. -/
def cells (h : Head) (dv av pv ov kv : Value) : Array Value :=
  #[.int .u64 h.zx, .int .i64 h.tm, .int .i32 h.fs.op, .string h.fs.path, dv, av, .int .i32 h.fs.ver, .int .i64 h.fs.ses, .int .i32 h.fs.tmo, pv, ov, .bool h.seq, kv, .int .i64 h.ases]

/-- The ops' slice: each op's 14 cells lie in a row. -/
def OpsIn (w : World) (v : Value) (css : List (Array Value)) : Prop :=
  (v = .slice none 0 0 ∧ css = []) ∨ ∃ x c, v = .slice (some x) css.length c ∧ ∀ i, i < css.length → ∀ j, j < 14 → w.cell? (x.add (i * 14 + j)) = (css.getD i #[])[j]?

/-- The numbers fit their kinds. -/
structure Fits (h : Head) : Prop where
  zx0 : 0 ≤ h.zx
  zx1 : h.zx < 18446744073709551616
  tm0 : -9223372036854775808 ≤ h.tm
  tm1 : h.tm < 9223372036854775808
  op0 : -2147483648 ≤ h.fs.op
  op1 : h.fs.op < 2147483648
  ver0 : -2147483648 ≤ h.fs.ver
  ver1 : h.fs.ver < 2147483648
  ses0 : -9223372036854775808 ≤ h.fs.ses
  ses1 : h.fs.ses < 9223372036854775808
  tmo0 : -2147483648 ≤ h.fs.tmo
  tmo1 : h.fs.tmo < 2147483648
  acl0 : ∀ a ∈ h.fs.acl, -2147483648 ≤ a.perms ∧ a.perms < 2147483648

/-- The change t lies in the cells cs: its own cells, its slices' cells; at each op likewise. -/
def TxAt (w : World) : Nat → Array Value → Tx → Prop
  | 0, _, _ => False
  | m + 1, cs, t => ∃ (dv av pv ov kv : Value) (css : List (Array Value)), cs = cells t.head dv av pv ov kv ∧ Fits t.head ∧ BytesIn w dv t.head.fs.data ∧ AclsIn w av t.head.fs.acl ∧ BytesIn w pv t.head.fs.pw ∧ OpsIn w ov css ∧ AskIn w kv t.head.ask ∧
      css.length = t.ops.length ∧ ∀ i, i < t.ops.length → TxAt w m (css.getD i #[]) (t.ops.getD i default)

/-! ### nothing of it turns where memory stays -/
theorem BytesIn.kept {w w' : World} {v : Value} {o : Option (List UInt8)} (H : BytesIn w v o) (hk : ∀ p v, w.cell? p = some v → w'.cell? p = some v) : BytesIn w' v o := by
  rcases H with h | ⟨x, c, bs, h1, h2, h3⟩
  · exact .inl h
  · exact .inr ⟨x, c, bs, h1, h2, fun i hi => hk _ _ (h3 i hi)⟩
theorem AclsIn.kept {w w' : World} {v : Value} {l : List Acl} (H : AclsIn w v l) (hk : ∀ p v, w.cell? p = some v → w'.cell? p = some v) : AclsIn w' v l := by
  rcases H with h | ⟨x, c, h1, h3⟩
  · exact .inl h
  · exact .inr ⟨x, c, h1, fun i hi => ⟨hk _ _ (h3 i hi).1, hk _ _ (h3 i hi).2.1, hk _ _ (h3 i hi).2.2⟩⟩
theorem AskIn.kept {w w' : World} {v : Value} {l : List (ByteArray × ByteArray)} (H : AskIn w v l) (hk : ∀ p v, w.cell? p = some v → w'.cell? p = some v) : AskIn w' v l := by
  rcases H with h | ⟨x, c, h1, h3⟩
  · exact .inl h
  · exact .inr ⟨x, c, h1, fun i hi => ⟨hk _ _ (h3 i hi).1, hk _ _ (h3 i hi).2⟩⟩

theorem cells_size (h : Head) (dv av pv ov kv : Value) : (cells h dv av pv ov kv).size = 14 := rfl
theorem TxAt.size {w : World} {m : Nat} {cs : Array Value} {t : Tx} (H : TxAt w m cs t) : cs.size = 14 := by
  cases m with
  | zero => exact H.elim
  | succ m =>
    obtain ⟨dv, av, pv, ov, kv, css, rfl, _⟩ := H
    rfl

theorem TxAt.kept {w w' : World} (hk : ∀ p v, w.cell? p = some v → w'.cell? p = some v) : ∀ {m : Nat} {cs : Array Value} {t : Tx}, TxAt w m cs t → TxAt w' m cs t
  | 0, _, _, h => h.elim
  | m + 1, cs, t, h => by
    obtain ⟨dv, av, pv, ov, kv, css, h1, h2, h3, h4, h5, h6, h7, h8, h9⟩ := h
    refine ⟨dv, av, pv, ov, kv, css, h1, h2, h3.kept hk, h4.kept hk, h5.kept hk, ?_, h7.kept hk, h8, fun i hi => TxAt.kept hk (h9 i hi)⟩
    rcases h6 with h | ⟨x, c, g1, g2⟩
    · exact .inl h
    · refine .inr ⟨x, c, g1, fun i hi j hj => ?_⟩
      have hs := (h9 i (by omega)).size
      have hg : (css.getD i #[])[j]? = some ((css.getD i #[])[j]'(by omega)) := Array.getElem?_eq_getElem (by omega)
      rw [hg]
      exact hk _ _ ((g2 i hi j hj).trans hg)

theorem TxAt.more {w : World} : ∀ {m : Nat} {cs : Array Value} {t : Tx}, TxAt w m cs t → TxAt w (m + 1) cs t
  | 0, _, _, h => h.elim
  | m + 1, cs, t, h => by
    obtain ⟨dv, av, pv, ov, kv, css, h1, h2, h3, h4, h5, h6, h7, h8, h9⟩ := h
    exact ⟨dv, av, pv, ov, kv, css, h1, h2, h3, h4, h5, h6, h7, h8, fun i hi => TxAt.more (h9 i hi)⟩

theorem below_cells {w w' : World} (hb : Below w.heap.size w w') : ∀ p v, w.cell? p = some v → w'.cell? p = some v := fun p v h => (hb.cell (World.block_lt_of_cell? _ _ h)).trans h

end Go.Proofs.Qxb6609425aDoor
