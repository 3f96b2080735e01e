/-
  Seat Qxb6609425aDoor: the argument, opened: what lies in memory when the call begins.
-/
import Derived.Test.Qxb6609425aDoorTree
import Derived.OpenShut
import Derived.Deep.Strs
import Derived.Deep.SlicePairs
namespace Go.Proofs.Qxb6609425aDoor
open Go.ChangeShapes Go.WideShapes Go.RowKit
set_option linter.unusedVariables false
set_option linter.unusedSimpArgs false

theorem cells28 : Tryd.prog.cellsOf 28 = 14 := by kernel_rfl
theorem cells22 : Tryd.prog.cellsOf 22 = 1 := by kernel_rfl
theorem cells2 : Tryd.prog.cellsOf 2 = 1 := by kernel_rfl
theorem cells21 : Tryd.prog.cellsOf 21 = 1 := by kernel_rfl
theorem cells9 : Tryd.prog.cellsOf 9 = 1 := by kernel_rfl
theorem cells23 : Tryd.prog.cellsOf 23 = 1 := by kernel_rfl
theorem cells24 : Tryd.prog.cellsOf 24 = 1 := by kernel_rfl
theorem cells25 : Tryd.prog.cellsOf 25 = 1 := by kernel_rfl
theorem cells4 : Tryd.prog.cellsOf 4 = 1 := by kernel_rfl
theorem cells26 : Tryd.prog.cellsOf 26 = 1 := by kernel_rfl
theorem cells5 : Tryd.prog.cellsOf 5 = 1 := by kernel_rfl
theorem cells58 : Tryd.prog.cellsOf 58 = 3 := by kernel_rfl
theorem cells60 : Tryd.prog.cellsOf 60 = 2 := by kernel_rfl

theorem u8_back (z : Int) (h : (Lit.int .u8 z).wf = true) : bv (UInt8.ofNat z.toNat) = .int .u8 z := by
  obtain ⟨h0, h1⟩ := bounds_u8 h
  unfold bv
  congr 1
  rw [UInt8.toNat_ofNat']
  omega

theorem maxLen_le {n : Nat} (h : n ≤ maxLen) : n ≤ 9223372036854775807 := by
  unfold maxLen at h
  omega

theorem list3 {α : Type} (l : List α) (h : l.length = 3) : ∃ a b c, l = [a, b, c] := by
  match l, h with
  | [a, b, c], _ => exact ⟨a, b, c, rfl⟩
theorem list14 {α : Type} (l : List α) (h : l.length = 14) : ∃ v0 v1 v2 v3 v4 v5 v6 v7 v8 v9 v10 v11 v12 v13, l = [v0, v1, v2, v3, v4, v5, v6, v7, v8, v9, v10, v11, v12, v13] := by
  match l, h with
  | [v0, v1, v2, v3, v4, v5, v6, v7, v8, v9, v10, v11, v12, v13], _ => exact ⟨v0, v1, v2, v3, v4, v5, v6, v7, v8, v9, v10, v11, v12, v13, rfl⟩

theorem getD_map_range {α : Type} (f : Nat → α) (d : α) (n i : Nat) (h : i < n) : ((List.range n).map f).getD i d = f i := by
  simp [List.getD_eq_getElem?_getD, List.getElem?_map, List.getElem?_range h]

section
variable {H : Type} {enc : TypeId × Value → H} {W : World} {held : Bool}

theorem fld {n : Nat} {t : TypeId} {off : Nat} {v : Value} {cs : List Value} {y : DataW H × List MemPlace} (hc : Tryd.prog.cellsOf t = 1)
    (hg : DataW.trod enc Tryd.prog W 0 (fun _ => true) held n t ((cs.drop off).take (Tryd.prog.cellsOf t)) = some y) (hv : (cs.drop off).take 1 = [v]) :
    DataW.trod enc Tryd.prog W 0 (fun _ => true) held n t [v] = some y := by
  rw [hc, hv] at hg
  exact hg

theorem open_buf {n : Nat} {v : Value} {x : DataW H × List MemPlace} (h : DataW.trod enc Tryd.prog W 0 (fun _ => true) held n 23 [v] = some x) :
    ∃ o, BytesIn W v o ∧ wBuf o ≤ 9223372036854775807 := by
  rcases open_ints Tryd.underlying23 Tryd.underlying5 cells5 h with ⟨hcs, _⟩ | ⟨a, len, cap, zs, hcs, _, hl, hm, hz, _, hcell, hwz⟩
  · cases hcs
    exact ⟨none, .inl ⟨rfl, rfl⟩, Nat.zero_le _⟩
  · cases hcs
    have hz' : zs.length = cap := by simpa using hz
    have hlen : ((zs.take len).map fun z => UInt8.ofNat z.toNat).length = len := by
      rw [List.length_map, List.length_take]
      omega
    refine ⟨some ((zs.take len).map fun z => UInt8.ofNat z.toNat), .inr ⟨a, cap, (zs.take len).map fun z => UInt8.ofNat z.toNat, by rw [hlen], rfl, fun i hi => ?_⟩, by
      show ((zs.take len).map fun z => UInt8.ofNat z.toNat).length ≤ _
      rw [hlen]
      exact maxLen_le (Nat.le_trans hl hm)⟩
    rw [hlen] at hi
    have hi' : i < zs.length := by omega
    rw [hcell i hi']
    have e1 : zs.getD i 0 = zs[i] := by simp [List.getD_eq_getElem?_getD, List.getElem?_eq_getElem hi']
    have e2 : ((zs.take len).map fun z => UInt8.ofNat z.toNat).getD i 0 = UInt8.ofNat (zs[i]).toNat := by
      simp [List.getD_eq_getElem?_getD, List.getElem?_map, List.getElem?_take, hi, List.getElem?_eq_getElem hi']
    rw [e1, e2, u8_back _ (hwz _ (List.getElem_mem hi'))]

theorem open_acls {n : Nat} {v : Value} {x : DataW H × List MemPlace} (h : DataW.trod enc Tryd.prog W 0 (fun _ => true) held n 24 [v] = some x) :
    ∃ l, AclsIn W v l ∧ l.length ≤ 9223372036854775807 ∧ ∀ a ∈ l, (-2147483648 ≤ a.perms ∧ a.perms < 2147483648) ∧ a.scheme.size ≤ 9223372036854775807 ∧ a.id.size ≤ 9223372036854775807 := by
  rcases Deep.open_slice Tryd.underlying24 h with ⟨hcs, _⟩ | ⟨a, len, cap, m, k, D, Pl, hcs, _, hl, hm, hmm, _, hx⟩
  · cases hcs
    exact ⟨[], .inl ⟨rfl, rfl⟩, Nat.zero_le _, fun a h => by cases h⟩
  · cases hcs
    have hlm : len ≤ m := by
      rw [hmm]
      simpa using hl
    obtain ⟨f, hf⟩ := Deep.choose_lt (α := Acl) (n := len) (p := fun i q => (W.cell? (a.add (i * 3)) = some (.int .i32 q.perms) ∧ W.cell? (a.add (i * 3 + 1)) = some (.string q.scheme) ∧ W.cell? (a.add (i * 3 + 2)) = some (.string q.id)) ∧
        (-2147483648 ≤ q.perms ∧ q.perms < 2147483648) ∧ q.scheme.size ≤ 9223372036854775807 ∧ q.id.size ≤ 9223372036854775807) (fun i hi => by
      obtain ⟨cs', h1, h2⟩ := hx i (by omega)
      rw [cells58] at h1
      obtain ⟨_, hlen, hcell⟩ := World.cells?_some h1
      obtain ⟨y0, y1, y2, k', _, _, g0, g1, g2⟩ := Deep.trod_struct3 Tryd.underlying58 h2
      obtain ⟨v0, v1, v2, rfl⟩ := list3 cs' hlen
      have g0 := fld cells21 g0 rfl
      have g1 := fld cells9 g1 rfl
      have g2 := fld cells9 g2 rfl
      obtain ⟨z, e0, _, wz⟩ := DataW.trod_int Tryd.underlying21 g0
      obtain ⟨s, e1, _, ws⟩ := DataW.trod_string Tryd.underlying9 g1
      obtain ⟨t, e2, _, wt⟩ := DataW.trod_string Tryd.underlying9 g2
      cases e0
      cases e1
      cases e2
      have c0 := hcell 0 (by omega)
      have c1 := hcell 1 (by omega)
      have c2 := hcell 2 (by omega)
      rw [Deep.add_add] at c0 c1 c2
      have b := bounds_i32 wz
      exact ⟨⟨z, s, t⟩, ⟨c0, c1, c2⟩, ⟨by simp only; omega, by simp only; omega⟩, maxLen_le ws, maxLen_le wt⟩)
    refine ⟨(List.range len).map f, .inr ⟨a, cap, by simp, fun i hi => ?_⟩, ?_, ?_⟩
    · have hi' : i < len := by simpa using hi
      rw [getD_map_range f default len i hi']
      exact (hf i hi').1
    · rw [List.length_map, List.length_range]
      exact maxLen_le (Nat.le_trans hl hm)
    · intro q hq
      obtain ⟨i, hi, rfl⟩ := List.mem_map.1 hq
      exact (hf i (List.mem_range.1 hi)).2

theorem open_asks {n : Nat} {v : Value} {x : DataW H × List MemPlace} (h : DataW.trod enc Tryd.prog W 0 (fun _ => true) held n 26 [v] = some x) :
    ∃ l, AskIn W v l ∧ l.length ≤ 9223372036854775807 ∧ ∀ a ∈ l, a.1.size ≤ 9223372036854775807 ∧ a.2.size ≤ 9223372036854775807 := by
  rcases Deep.open_slice_pairs Tryd.underlying26 Tryd.underlying60 cells60 rfl rfl cells9 cells9 h with ⟨hcs, _⟩ | ⟨a, len, cap, m, k, V0, V1, D0, D1, P0, P1, hcs, _, hl, hm, hmm, _, hx⟩
  · cases hcs
    exact ⟨[], .inl ⟨rfl, rfl⟩, Nat.zero_le _, fun a h => by cases h⟩
  · cases hcs
    have hlm : len ≤ m := by
      rw [hmm]
      simpa using hl
    obtain ⟨f, hf⟩ := Deep.choose_lt (α := ByteArray × ByteArray) (n := len) (p := fun i q => (W.cell? (a.add (i * 2)) = some (.string q.1) ∧ W.cell? (a.add (i * 2 + 1)) = some (.string q.2)) ∧
        q.1.size ≤ 9223372036854775807 ∧ q.2.size ≤ 9223372036854775807) (fun i hi => by
      obtain ⟨c0, c1, g0, g1⟩ := hx i (by omega)
      obtain ⟨s, e0, _, ws⟩ := DataW.trod_string Tryd.underlying9 g0
      obtain ⟨t, e1, _, wt⟩ := DataW.trod_string Tryd.underlying9 g1
      simp only [List.cons.injEq, and_true] at e0 e1
      rw [e0] at c0
      rw [e1] at c1
      exact ⟨⟨s, t⟩, ⟨c0, c1⟩, maxLen_le ws, maxLen_le wt⟩)
    refine ⟨(List.range len).map f, .inr ⟨a, cap, by simp, fun i hi => ?_⟩, ?_, ?_⟩
    · have hi' : i < len := by simpa using hi
      rw [getD_map_range f default len i hi']
      exact (hf i hi').1
    · rw [List.length_map, List.length_range]
      exact maxLen_le (Nat.le_trans hl hm)
    · intro q hq
      obtain ⟨i, hi, rfl⟩ := List.mem_map.1 hq
      exact (hf i (List.mem_range.1 hi)).2

/-- What the fields' cells say. -/
theorem open_tx : ∀ (n : Nat) (cs : List Value) (x : DataW H × List MemPlace), DataW.trod enc Tryd.prog W 0 (fun _ => true) held n 28 cs = some x → ∃ t, TxIn W n cs.toArray t := by
  intro n
  induction n using Nat.strongRecOn with
  | _ n ih =>
    intro cs x h
    obtain ⟨xs, k, rfl, _, hlen, hxl, hf⟩ := DataW.trod_struct Tryd.underlying28 h
    rw [cells28] at hlen
    have hxl' : xs.length = 14 := hxl
    obtain ⟨v0, v1, v2, v3, v4, v5, v6, v7, v8, v9, v10, v11, v12, v13, rfl⟩ := list14 cs hlen
    obtain ⟨y0, y1, y2, y3, y4, y5, y6, y7, y8, y9, y10, y11, y12, y13, rfl⟩ := list14 xs hxl'
    have g0 := fld cells22 (hf 0 _ rfl) rfl
    have g1 := fld cells2 (hf 1 _ rfl) rfl
    have g2 := fld cells21 (hf 2 _ rfl) rfl
    have g3 := fld cells9 (hf 3 _ rfl) rfl
    have g4 := fld cells23 (hf 4 _ rfl) rfl
    have g5 := fld cells24 (hf 5 _ rfl) rfl
    have g6 := fld cells21 (hf 6 _ rfl) rfl
    have g7 := fld cells2 (hf 7 _ rfl) rfl
    have g8 := fld cells21 (hf 8 _ rfl) rfl
    have g9 := fld cells23 (hf 9 _ rfl) rfl
    have g10 := fld cells25 (hf 10 _ rfl) rfl
    have g11 := fld cells4 (hf 11 _ rfl) rfl
    have g12 := fld cells26 (hf 12 _ rfl) rfl
    have g13 := fld cells2 (hf 13 _ rfl) rfl
    clear hf h hxl hxl' hlen
    obtain ⟨zx, e0, _, w0⟩ := DataW.trod_int Tryd.underlying22 g0
    obtain ⟨tm, e1, _, w1⟩ := DataW.trod_int Tryd.underlying2 g1
    obtain ⟨op, e2, _, w2⟩ := DataW.trod_int Tryd.underlying21 g2
    obtain ⟨path, e3, _, w3⟩ := DataW.trod_string Tryd.underlying9 g3
    obtain ⟨data, B4, w4⟩ := open_buf g4
    obtain ⟨acl, B5, w5, a5⟩ := open_acls g5
    obtain ⟨ver, e6, _, w6⟩ := DataW.trod_int Tryd.underlying21 g6
    obtain ⟨ses, e7, _, w7⟩ := DataW.trod_int Tryd.underlying2 g7
    obtain ⟨tmo, e8, _, w8⟩ := DataW.trod_int Tryd.underlying21 g8
    obtain ⟨pw, B9, w9⟩ := open_buf g9
    obtain ⟨seq, e11, _⟩ := DataW.trod_bool Tryd.underlying4 g11
    obtain ⟨ask, B12, w12, a12⟩ := open_asks g12
    obtain ⟨ases, e13, _, w13⟩ := DataW.trod_int Tryd.underlying2 g13
    cases e0
    cases e1
    cases e2
    cases e3
    cases e6
    cases e7
    cases e8
    cases e11
    cases e13
    clear g0 g1 g2 g3 g4 g5 g6 g7 g8 g9 g11 g12 g13
    have b0 := bounds_u64 w0
    have b1 := bounds_i64 w1
    have b2 := bounds_i32 w2
    have b6 := bounds_i32 w6
    have b7 := bounds_i64 w7
    have b8 := bounds_i32 w8
    have FT : Fits ⟨zx, tm, ⟨op, path, data, acl, ver, ses, tmo, pw⟩, seq, ask, ases⟩ :=
      { zx0 := by simp only; omega, zx1 := by simp only; omega, tm0 := by simp only; omega, tm1 := by simp only; omega, op0 := by simp only; omega, op1 := by simp only; omega, ver0 := by simp only; omega, ver1 := by simp only; omega,
        ses0 := by simp only; omega, ses1 := by simp only; omega, tmo0 := by simp only; omega, tmo1 := by simp only; omega, acl0 := fun a ha => (a5 a ha).1 }
    have LN : Lens ⟨zx, tm, ⟨op, path, data, acl, ver, ses, tmo, pw⟩, seq, ask, ases⟩ :=
      { path := maxLen_le w3, data := w4, pw := w9, acl := w5, ask := w12, acls := fun a ha => (a5 a ha).2, asks := a12 }
    rcases DataW.trod_slice Tryd.underlying25 g10 with ⟨hcs, _⟩ | ⟨a, len, cap, elems, rest, k', hk, hcs, _, _, hl, hm, hel, hat, _⟩
    · cases hcs
      exact ⟨.mk ⟨zx, tm, ⟨op, path, data, acl, ver, ses, tmo, pw⟩, seq, ask, ases⟩ [], v4, v5, v9, _, v12, [], rfl, ⟨FT, LN, Nat.zero_le _⟩, B4, B5, B9, .inl ⟨rfl, rfl⟩, B12, rfl, fun i hi => absurd hi (Nat.not_lt_zero _)⟩
    · cases hcs
      subst hk
      obtain ⟨f, hf⟩ := Deep.choose_lt (α := Array Value × Tx) (n := len) (p := fun i q => (∀ j, j < 14 → W.cell? (a.add (i * 14 + j)) = q.1[j]?) ∧ TxIn W k' q.1 q.2) (fun i hi => by
        have h1 := hat i hi
        rw [List.getElem?_eq_getElem (by omega)] at h1
        obtain ⟨cs', h2, h3⟩ := Option.bind_eq_some_iff.1 h1
        rw [cells28] at h2
        obtain ⟨_, hlen', hcell⟩ := World.cells?_some h2
        obtain ⟨t, ht⟩ := ih k' (by omega) cs' _ h3
        refine ⟨(cs'.toArray, t), fun j hj => ?_, ht⟩
        have h4 := hcell j hj
        rw [Deep.add_add] at h4
        rw [h4]
        simp)
      refine ⟨.mk ⟨zx, tm, ⟨op, path, data, acl, ver, ses, tmo, pw⟩, seq, ask, ases⟩ ((List.range len).map fun i => (f i).2), v4, v5, v9, _, v12, (List.range len).map fun i => (f i).1, rfl, ⟨FT, LN, ?_⟩, B4, B5, B9, .inr ⟨a, cap, by simp, fun i hi j hj => ?_⟩, B12, by simp [Tx.ops], fun i hi => ?_⟩
      · show ((List.range len).map fun i => (f i).2).length ≤ _
        rw [List.length_map, List.length_range]
        exact maxLen_le (Nat.le_trans hl hm)
      · have hi' : i < len := by simpa using hi
        rw [getD_map_range (fun i => (f i).1) #[] len i hi']
        exact (hf i hi').1 j hj
      · have hi' : i < len := by simpa [Tx.ops] using hi
        show TxIn W (k' + 1) (((List.range len).map fun i => (f i).1).getD i #[]) (((List.range len).map fun i => (f i).2).getD i default)
        rw [getD_map_range (fun i => (f i).1) #[] len i hi', getD_map_range (fun i => (f i).2) default len i hi']
        exact (hf i hi').2.more
end

end Go.Proofs.Qxb6609425aDoor
