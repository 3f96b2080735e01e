/-
  Seat Qxb6609425aDoor: txnBytes.
-/
import Derived.Test.Qxb6609425aDoorTree
namespace Go.Proofs.Qxb6609425aDoor
open Go.RowKit
set_option linter.unusedVariables false
set_option linter.unusedSimpArgs false

theorem cell_new (w : World) (c : Array Value) (t : TypeId) (j : Nat) (v : Value) (h : c[j]? = some v) : (w.alloc (.cells c t)).cell? ⟨w.heap.size, j, none⟩ = some v := by
  exact (cell_of_row (w.alloc (.cells c t)) w.heap.size j c t (0, 0) (MapKept.heap_alloc w _).1).trans h

theorem sat_two (X a b : Nat) : sat (sat (sat X + a) + b) = sat (X + (a + b)) := by
  rw [sat_sat, Nat.add_assoc, sat_sat]

theorem arr14 (a : Array Value) (h : a.size = 14) : ∃ v0 v1 v2 v3 v4 v5 v6 v7 v8 v9 v10 v11 v12 v13, a = #[v0, v1, v2, v3, v4, v5, v6, v7, v8, v9, v10, v11, v12, v13] := by
  obtain ⟨l⟩ := a
  match l, h with
  | [v0, v1, v2, v3, v4, v5, v6, v7, v8, v9, v10, v11, v12, v13], _ => exact ⟨v0, v1, v2, v3, v4, v5, v6, v7, v8, v9, v10, v11, v12, v13, rfl⟩

/-- What the first six calls reckon. -/
theorem bytes_head {a p d q x y z : Nat} : sat (sat (sat (sat (sat (sat (a + p) + d) + q) + 40 * x) + 32 * y) + 200 * z) = sat (a + (p + d + q + 40 * x + 32 * y + 200 * z)) := by
  simp only [sat_sat]
  congr 1
  omega

set_option maxRecDepth 100000 in
set_option maxHeartbeats 6400000 in
theorem bytes_step (m : Nat) (W : World) (h : Head) (ops : List Tx) (F : Lens h) (hol : ops.length ≤ 9223372036854775807) (da aa pa oa ka : Option Addr) (dc ac pc oc kc : Nat) (css : List (Array Value))
    (hA : AclsIn W (.slice aa h.fs.acl.length ac) h.fs.acl) (hK : AskIn W (.slice ka h.ask.length kc) h.ask) (hO : OpsIn W (.slice oa ops.length oc) css) (hcs : css.length = ops.length) (hT : ∀ i, i < ops.length → (css.getD i #[]).size = 14)
    (ih : ∀ i, i < ops.length → ∀ (acc : Nat) (w : World), acc ≤ 1048577 → Below W.heap.size W w → Calls Tryd.prog 4 #[.agg (css.getD i #[]), .int .i64 (acc : Int)] w fun e w' => e = .returned (.int .i64 ((sat (acc + wt m (ops.getD i default)) : Nat) : Int)) ∧ Below w.heap.size w w')
    (acc : Nat) (ha : acc ≤ 1048577) (w : World) (hW : Below W.heap.size W w) :
    Calls Tryd.prog 4 #[.agg #[.int .u64 h.zx, .int .i64 h.tm, .int .i32 h.fs.op, .string h.fs.path, .slice da (wBuf h.fs.data) dc, .slice aa h.fs.acl.length ac, .int .i32 h.fs.ver, .int .i64 h.fs.ses, .int .i32 h.fs.tmo, .slice pa (wBuf h.fs.pw) pc, .slice oa ops.length oc, .bool h.seq, .slice ka h.ask.length kc, .int .i64 h.ases], .int .i64 (acc : Int)] w fun e w' => e = .returned (.int .i64 ((sat (acc + wt (m + 1) (.mk h ops)) : Nat) : Int)) ∧ Below w.heap.size w w' := by
  have HF := Hid.mk F
  have HA := Hid.mk (And.intro hA (And.intro hK (And.intro hO (And.intro hcs (And.intro hT ih)))))
  have HW := Hid.mk hW
  have hl1 := F.path
  have hl2 := F.data
  have hl3 := F.pw
  have hl4 := F.acl
  have hl5 := F.ask
  clear F hA hK hO hcs hT ih hW
  have HB : Hid (Below w.heap.size w (w.alloc (.cells #[.int .u64 h.zx, .int .i64 h.tm, .int .i32 h.fs.op, .string h.fs.path, .slice da (wBuf h.fs.data) dc, .slice aa h.fs.acl.length ac, .int .i32 h.fs.ver, .int .i64 h.fs.ses, .int .i32 h.fs.tmo, .slice pa (wBuf h.fs.pw) pc, .slice oa ops.length oc, .bool h.seq, .slice ka h.ask.length kc, .int .i64 h.ases] 28))) := (Below.refl _ w).alloc (Nat.le_refl _) _
  go_enter Tryd.func4, Tryd.ntmps4
  go_wp2_with fail
  refine (addLen_any _ acc h.fs.path.size ha hl1).mono ?_
  rintro e w' ⟨rfl, rfl⟩
  go_wp2_with fail
  refine (addLen_any _ _ (wBuf h.fs.data) (sat_le _) hl2).mono ?_
  rintro e w' ⟨rfl, rfl⟩
  go_wp2_with fail
  refine (addLen_any _ _ (wBuf h.fs.pw) (sat_le _) hl3).mono ?_
  rintro e w' ⟨rfl, rfl⟩
  go_wp2_with fail
  refine (addCount40_any _ _ h.fs.acl.length (sat_le _) hl4).mono ?_
  rintro e w' ⟨rfl, rfl⟩
  go_wp2_with fail
  refine (addCount32_any _ _ h.ask.length (sat_le _) hl5).mono ?_
  rintro e w' ⟨rfl, rfl⟩
  go_wp2_with fail
  refine (addCount200_any _ _ ops.length (sat_le _) hol).mono ?_
  rw [bytes_head]
  rintro e w' ⟨rfl, rfl⟩
  have HWT : Hid (wt (m + 1) (.mk h ops) = h.fs.path.size + wBuf h.fs.data + wBuf h.fs.pw + 40 * h.fs.acl.length + 32 * h.ask.length + 200 * ops.length + sumAcl h.fs.acl h.fs.acl.length + sumAsk h.ask h.ask.length + sumOps m ops ops.length) := wt_eq m (.mk h ops)
  obtain ⟨A, hA⟩ : ∃ A, A = acc + (h.fs.path.size + wBuf h.fs.data + wBuf h.fs.pw + 40 * h.fs.acl.length + 32 * h.ask.length + 200 * ops.length) := ⟨_, rfl⟩
  rw [← hA]
  have HT : Hid (acc + wt (m + 1) (.mk h ops) = A + sumAcl h.fs.acl h.fs.acl.length + sumAsk h.ask h.ask.length + sumOps m ops ops.length) := by
    unfold Hid
    rw [HWT.out, hA]
    omega
  clear hA HWT
  have HE1 : 1048576 < sat A → Hid (sat (acc + wt (m + 1) (.mk h ops)) = sat A) := fun hbig => by
    unfold Hid
    rw [HT.out]
    unfold sat at hbig ⊢
    split at hbig
    · omega
    · rename_i h'
      rw [if_neg (by omega), if_neg h']
  by_cases hbig : 1048576 < sat A
  · have HE := HE1 hbig
    clear HE1
    go_wp2_with fail
    go_ret
    rw [HE.out]
    exact ⟨rfl, HB.out⟩
  · clear HE1
    go_wp2_with fail
    have X5 : (w.alloc (.cells #[.int .u64 h.zx, .int .i64 h.tm, .int .i32 h.fs.op, .string h.fs.path, .slice da (wBuf h.fs.data) dc, .slice aa h.fs.acl.length ac, .int .i32 h.fs.ver, .int .i64 h.fs.ses, .int .i32 h.fs.tmo, .slice pa (wBuf h.fs.pw) pc, .slice oa ops.length oc, .bool h.seq, .slice ka h.ask.length kc, .int .i64 h.ases] 28)).cell? ⟨w.heap.size, 5, none⟩ = some (.slice aa h.fs.acl.length ac) := cell_new _ _ _ 5 _ rfl
    have X12 : (w.alloc (.cells #[.int .u64 h.zx, .int .i64 h.tm, .int .i32 h.fs.op, .string h.fs.path, .slice da (wBuf h.fs.data) dc, .slice aa h.fs.acl.length ac, .int .i32 h.fs.ver, .int .i64 h.fs.ses, .int .i32 h.fs.tmo, .slice pa (wBuf h.fs.pw) pc, .slice oa ops.length oc, .bool h.seq, .slice ka h.ask.length kc, .int .i64 h.ases] 28)).cell? ⟨w.heap.size, 12, none⟩ = some (.slice ka h.ask.length kc) := cell_new _ _ _ 12 _ rfl
    have X10 : (w.alloc (.cells #[.int .u64 h.zx, .int .i64 h.tm, .int .i32 h.fs.op, .string h.fs.path, .slice da (wBuf h.fs.data) dc, .slice aa h.fs.acl.length ac, .int .i32 h.fs.ver, .int .i64 h.fs.ses, .int .i32 h.fs.tmo, .slice pa (wBuf h.fs.pw) pc, .slice oa ops.length oc, .bool h.seq, .slice ka h.ask.length kc, .int .i64 h.ases] 28)).cell? ⟨w.heap.size, 10, none⟩ = some (.slice oa ops.length oc) := cell_new _ _ _ 10 _ rfl
    have HWB : Hid (Below W.heap.size W (w.alloc (.cells #[.int .u64 h.zx, .int .i64 h.tm, .int .i32 h.fs.op, .string h.fs.path, .slice da (wBuf h.fs.data) dc, .slice aa h.fs.acl.length ac, .int .i32 h.fs.ver, .int .i64 h.fs.ses, .int .i32 h.fs.tmo, .slice pa (wBuf h.fs.pw) pc, .slice oa ops.length oc, .bool h.seq, .slice ka h.ask.length kc, .int .i64 h.ases] 28))) := HW.out.alloc HW.out.size _
    have hb1 : w.heap.size < (w.alloc (.cells #[.int .u64 h.zx, .int .i64 h.tm, .int .i32 h.fs.op, .string h.fs.path, .slice da (wBuf h.fs.data) dc, .slice aa h.fs.acl.length ac, .int .i32 h.fs.ver, .int .i64 h.fs.ses, .int .i32 h.fs.tmo, .slice pa (wBuf h.fs.pw) pc, .slice oa ops.length oc, .bool h.seq, .slice ka h.ask.length kc, .int .i64 h.ases] 28)).heap.size := by simp
    clear HW
    generalize w.alloc (.cells #[.int .u64 h.zx, .int .i64 h.tm, .int .i32 h.fs.op, .string h.fs.path, .slice da (wBuf h.fs.data) dc, .slice aa h.fs.acl.length ac, .int .i32 h.fs.ver, .int .i64 h.fs.ses, .int .i32 h.fs.tmo, .slice pa (wBuf h.fs.pw) pc, .slice oa ops.length oc, .bool h.seq, .slice ka h.ask.length kc, .int .i64 h.ases] 28) = w1 at HB X5 X12 X10 HWB hb1 ⊢
    obtain ⟨b, hb⟩ : ∃ b, b = w.heap.size := ⟨_, rfl⟩
    rw [← hb] at X5 X12 X10 hb1 ⊢
    clear hb
    go_loop [1, 5] (fun a t => ∃ k : Nat, k ≤ h.fs.acl.length ∧ t = .int .i64 k ∧ a = .int .i64 ((sat (A + sumAcl h.fs.acl k) : Nat) : Int)) (fun a t => h.fs.acl.length - (intOf t).toNat)
    case atStart => exact ⟨0, Nat.zero_le _, rfl, by simp [sumAcl]⟩
    case round =>
      obtain ⟨k, hk, rfl, rfl⟩ := hrel
      by_cases hlt : k < h.fs.acl.length
      · have hlt' : (k : Int) < (h.fs.acl.length : Int) := by omega
        rcases HA.out.1 with ⟨_, e0⟩ | ⟨x, c, e0, hx⟩
        · rw [e0] at hlt
          simp at hlt
        · cases e0
          obtain ⟨_, q1, q2⟩ := hx k hlt
          have q1 := below_cells HWB.out _ _ q1
          have q2 := below_cells HWB.out _ _ q2
          have hsz := HF.out.acls (h.fs.acl.getD k default) (by rw [List.getD_eq_getElem?_getD, List.getElem?_eq_getElem hlt]; exact List.getElem_mem hlt)
          have HN := Hid.mk (sumAcl_next h.fs.acl k hlt)
          obtain ⟨s1, hs1⟩ : ∃ z, z = (h.fs.acl.getD k default).scheme := ⟨_, rfl⟩
          obtain ⟨s2, hs2⟩ : ∃ z, z = (h.fs.acl.getD k default).id := ⟨_, rfl⟩
          rw [← hs1, ← hs2] at HN hsz
          rw [← hs1] at q1
          rw [← hs2] at q2
          obtain ⟨o, ho⟩ : ∃ o, o = k * 3 := ⟨_, rfl⟩
          obtain ⟨y, hy⟩ : ∃ y, y = x.add o := ⟨_, rfl⟩
          rw [← ho, ← Deep.add_add, ← hy] at q1 q2
          rw [show y.add 1 = ⟨y.block, y.off + 1, none⟩ from rfl] at q1
          rw [show y.add 2 = ⟨y.block, y.off + 2, none⟩ from rfl] at q2
          have ho' : k * 3 = o := ho.symm
          have hy' : x.add o = y := hy.symm
          obtain ⟨hz1, hz2⟩ := hsz
          clear hs1 hs2 ho hy hx
          go_wp2_with fail
          refine (addLen_any _ _ s1.size (sat_le _) hz1).mono ?_
          rintro e w' ⟨rfl, rfl⟩
          go_wp2_with fail
          refine (addLen_any _ _ s2.size (sat_le _) hz2).mono ?_
          rintro e w' ⟨rfl, rfl⟩
          go_wp2_with fail
          refine ⟨⟨k + 1, by omega, by go_num, ?_⟩, by simp [intOf]; omega⟩
          rw [HN.out, sat_two, Nat.add_assoc]
      · have hke : k = h.fs.acl.length := by omega
        subst hke
        go_wp2_with fail
        generalize hA2 : A + sumAcl h.fs.acl h.fs.acl.length = A2 at HT ⊢
        clear hA2
        go_loop [1, 6] (fun a t => ∃ k : Nat, k ≤ h.ask.length ∧ t = .int .i64 k ∧ a = .int .i64 ((sat (A2 + sumAsk h.ask k) : Nat) : Int)) (fun a t => h.ask.length - (intOf t).toNat)
        case atStart => exact ⟨0, Nat.zero_le _, rfl, by simp [sumAsk]⟩
        case round =>
          obtain ⟨k, hk, rfl, rfl⟩ := hrel
          by_cases hlt : k < h.ask.length
          · have hlt' : (k : Int) < (h.ask.length : Int) := by omega
            rcases HA.out.2.1 with ⟨_, e0⟩ | ⟨x, c, e0, hx⟩
            · rw [e0] at hlt
              simp at hlt
            · cases e0
              obtain ⟨q1, q2⟩ := hx k hlt
              have q1 := below_cells HWB.out _ _ q1
              have q2 := below_cells HWB.out _ _ q2
              have hsz := HF.out.asks (h.ask.getD k default) (by rw [List.getD_eq_getElem?_getD, List.getElem?_eq_getElem hlt]; exact List.getElem_mem hlt)
              have HN := Hid.mk (sumAsk_next h.ask k hlt)
              obtain ⟨s1, hs1⟩ : ∃ z, z = (h.ask.getD k default).1 := ⟨_, rfl⟩
              obtain ⟨s2, hs2⟩ : ∃ z, z = (h.ask.getD k default).2 := ⟨_, rfl⟩
              rw [← hs1, ← hs2] at HN hsz
              rw [← hs1] at q1
              rw [← hs2] at q2
              obtain ⟨o, ho⟩ : ∃ o, o = k * 2 := ⟨_, rfl⟩
              obtain ⟨y, hy⟩ : ∃ y, y = x.add o := ⟨_, rfl⟩
              rw [← ho, ← hy] at q1
              rw [← ho, ← Deep.add_add, ← hy] at q2
              rw [show y.add 1 = ⟨y.block, y.off + 1, none⟩ from rfl] at q2
              have ho' : k * 2 = o := ho.symm
              have hy' : x.add o = y := hy.symm
              obtain ⟨hz1, hz2⟩ := hsz
              clear hs1 hs2 ho hy hx
              go_wp2_with fail
              refine (addLen_any _ _ s1.size (sat_le _) hz1).mono ?_
              rintro e w' ⟨rfl, rfl⟩
              go_wp2_with fail
              refine (addLen_any _ _ s2.size (sat_le _) hz2).mono ?_
              rintro e w' ⟨rfl, rfl⟩
              go_wp2_with fail
              refine ⟨⟨k + 1, by omega, by go_num, ?_⟩, by simp [intOf]; omega⟩
              rw [HN.out, sat_two, Nat.add_assoc]
          · have hke : k = h.ask.length := by omega
            subst hke
            go_wp2_with fail
            generalize hA3 : A2 + sumAsk h.ask h.ask.length = A3 at HT ⊢
            clear hA3
            have H3 : Hid (Below w1.heap.size w1 w1) := Below.refl _ _
            go_loopw [1, 7] (fun a t wr => ∃ k : Nat, k ≤ ops.length ∧ t = .int .i64 k ∧ a = .int .i64 ((sat (A3 + sumOps m ops k) : Nat) : Int) ∧ Hid (Below w1.heap.size w1 wr)) (fun a t _ => ops.length - (intOf t).toNat)
            case atStart => exact ⟨0, Nat.zero_le _, rfl, by simp [sumOps], H3⟩
            case round =>
              clear H3
              obtain ⟨k, hk, rfl, rfl, HR⟩ := hrel
              have Y10 := below_cells HR.out _ _ X10
              have hlb := sat_le (A3 + sumOps m ops k)
              by_cases hlt : k < ops.length
              · have hlt' : (k : Int) < (ops.length : Int) := by omega
                by_cases hst : 1048576 < sat (A3 + sumOps m ops k)
                · have HE : Hid (sat (acc + wt (m + 1) (.mk h ops)) = sat (A3 + sumOps m ops k)) := by
                    have h1 := sumOps_le m ops k
                    unfold Hid
                    rw [HT.out]
                    unfold sat at hst ⊢
                    split at hst
                    · omega
                    · rename_i h'
                      rw [if_neg (by omega), if_neg h']
                  go_wp2_with fail
                  go_ret
                  rw [HE.out]
                  exact ⟨rfl, HB.out.trans (HR.out.mono HB.out.size)⟩
                · rcases HA.out.2.2.1 with ⟨e0, e1⟩ | ⟨x, c, e0, hx⟩
                  · injection e0 with _ i2 _
                    omega
                  · have hcl := HA.out.2.2.2.1
                    have e0' : oa = some x := by
                      injection e0
                    subst e0'
                    have hsz := HA.out.2.2.2.2.1 k hlt
                    have hcell : ∀ j, j < 14 → wr.cell? (x.add (k * 14 + j)) = (css.getD k #[])[j]? := fun j hj => by
                      have h1 := hx k (by omega) j hj
                      have hg : (css.getD k #[])[j]? = some ((css.getD k #[])[j]'(by omega)) := Array.getElem?_eq_getElem (by omega)
                      rw [hg] at h1 ⊢
                      exact below_cells HR.out _ _ (below_cells HWB.out _ _ h1)
                    have hWr : Below W.heap.size W wr := HWB.out.trans (HR.out.mono HWB.out.size)
                    have ihk := HA.out.2.2.2.2.2 k hlt (sat (A3 + sumOps m ops k)) wr hlb hWr
                    obtain ⟨v0, v1, v2, v3, v4, v5, v6, v7, v8, v9, v10, v11, v12, v13, e14⟩ := arr14 _ hsz
                    rw [e14] at hcell ihk
                    obtain ⟨o, ho⟩ : ∃ o, o = k * 14 := ⟨_, rfl⟩
                    obtain ⟨y, hy⟩ : ∃ y, y = x.add o := ⟨_, rfl⟩
                    have ho' : k * 14 = o := ho.symm
                    have hy' : x.add o = y := hy.symm
                    have hcj : ∀ j, j < 14 → wr.cell? (y.add j) = (#[v0, v1, v2, v3, v4, v5, v6, v7, v8, v9, v10, v11, v12, v13] : Array Value)[j]? := fun j hj => by
                      have h1 := hcell j hj
                      rw [ho', ← Deep.add_add, hy'] at h1
                      exact h1
                    have c0 : wr.cell? y = some v0 := by
                      have h1 := hcj 0 (by omega)
                      rw [Addr.add_zero'] at h1
                      exact h1
                    have c1 : wr.cell? ⟨y.block, y.off + 1, none⟩ = some v1 := hcj 1 (by omega)
                    have c2 : wr.cell? ⟨y.block, y.off + 2, none⟩ = some v2 := hcj 2 (by omega)
                    have c3 : wr.cell? ⟨y.block, y.off + 3, none⟩ = some v3 := hcj 3 (by omega)
                    have c4 : wr.cell? ⟨y.block, y.off + 4, none⟩ = some v4 := hcj 4 (by omega)
                    have c5 : wr.cell? ⟨y.block, y.off + 5, none⟩ = some v5 := hcj 5 (by omega)
                    have c6 : wr.cell? ⟨y.block, y.off + 6, none⟩ = some v6 := hcj 6 (by omega)
                    have c7 : wr.cell? ⟨y.block, y.off + 7, none⟩ = some v7 := hcj 7 (by omega)
                    have c8 : wr.cell? ⟨y.block, y.off + 8, none⟩ = some v8 := hcj 8 (by omega)
                    have c9 : wr.cell? ⟨y.block, y.off + 9, none⟩ = some v9 := hcj 9 (by omega)
                    have c10 : wr.cell? ⟨y.block, y.off + 10, none⟩ = some v10 := hcj 10 (by omega)
                    have c11 : wr.cell? ⟨y.block, y.off + 11, none⟩ = some v11 := hcj 11 (by omega)
                    have c12 : wr.cell? ⟨y.block, y.off + 12, none⟩ = some v12 := hcj 12 (by omega)
                    have c13 : wr.cell? ⟨y.block, y.off + 13, none⟩ = some v13 := hcj 13 (by omega)
                    have hnx := sumOps_next m ops k hlt
                    obtain ⟨tk, htk⟩ : ∃ t, t = ops.getD k default := ⟨_, rfl⟩
                    rw [← htk] at ihk hnx
                    have HI := Hid.mk ihk
                    have HN := Hid.mk hnx
                    clear htk hnx ihk hcj hcell hWr hx e0 hsz e14 ho hy hcl
                    go_wp2_with fail
                    refine HI.out.mono ?_
                    rintro e w5 ⟨rfl, hb5⟩
                    have H5 := Hid.mk hb5
                    clear hb5
                    go_wp2_with fail
                    refine ⟨⟨k + 1, by omega, by go_num, ?_, HR.out.trans (H5.out.mono HR.out.size)⟩, by simp [intOf]; omega⟩
                    rw [HN.out, sat_sat, Nat.add_assoc]
              · have hke : k = ops.length := by omega
                subst hke
                go_wp2_with fail
                go_ret
                rw [HT.out]
                exact ⟨rfl, HB.out.trans (HR.out.mono HB.out.size)⟩

/-- txnBytes: what the change weighs, held just above the limit. -/
theorem bytes_any (W : World) : ∀ (m : Nat) (cs : Array Value) (t : Tx), TxIn W m cs t → ∀ (acc : Nat) (w : World), acc ≤ 1048577 → Below W.heap.size W w →
    Calls Tryd.prog 4 #[.agg cs, .int .i64 (acc : Int)] w fun e w' => e = .returned (.int .i64 ((sat (acc + wt m t) : Nat) : Int)) ∧ Below w.heap.size w w' := by
  intro m
  induction m with
  | zero => intro cs t h; exact h.elim
  | succ m ih =>
    intro cs t hT acc w ha hW
    obtain ⟨dv, av, pv, ov, kv, css, rfl, ⟨_, hL, hol⟩, h3, h4, h5, h6, h7, h8, h9⟩ := hT
    obtain ⟨h, ops⟩ := t
    obtain ⟨da, dc, rfl⟩ := h3.len
    obtain ⟨aa, ac, rfl⟩ := h4.len
    obtain ⟨pa, pc, rfl⟩ := h5.len
    obtain ⟨oa, oc, rfl⟩ := h6.len
    obtain ⟨ka, kc, rfl⟩ := h7.len
    rw [h8] at h6 ⊢
    exact bytes_step m W h ops hL hol da aa pa oa ka dc ac pc oc kc css h4 h7 h6 h8 (fun i hi => (h9 i hi).size) (fun i hi acc' w' ha' hW' => ih _ _ (h9 i hi) acc' w' ha' hW') acc ha w hW

end Go.Proofs.Qxb6609425aDoor
