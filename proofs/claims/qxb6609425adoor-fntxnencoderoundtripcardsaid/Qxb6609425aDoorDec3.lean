/-
  Seat Qxb6609425aDoor: the decoder: Count, ACLs.
-/
import Derived.Test.Qxb6609425aDoorDec2
import Derived.Test.Qxb6609425aDoorEnc6
namespace Go.Proofs.Qxb6609425aDoor
open Go.RowKit
set_option linter.unusedVariables false
set_option linter.unusedSimpArgs false

theorem DecS.cell {w : World} {D : Nat} {rest : List UInt8} (H : DecS w D rest) : ∃ g o c, w.cell? ⟨D, 0, none⟩ = some (.slice (some ⟨g, o, none⟩) rest.length c) := by
  obtain ⟨g, o, c, arr, fr, hD, _⟩ := H
  exact ⟨g, o, c, by simp [World.cell?, hD]⟩

set_option maxHeartbeats 1600000 in
theorem count12_any {w : World} {D : Nat} (n : Nat) (rest : List UInt8) (H : DecS w D (be4 (n : Int) ++ rest)) (hn : n ≤ 1048576) (hr : 12 * n ≤ rest.length) (hl : 4 + rest.length ≤ 140737488355328) :
    Calls Tryd.prog 13 #[.pointer (some ⟨D, 0, none⟩), .int .i64 12] w fun e w' => e = .returned (.int .i64 (n : Int)) ∧ DecS w' D rest ∧ w.grownBy w' (some D) := by
  have HI := Hid.mk (dint_any (n : Int) rest H (by omega) (by omega) hl)
  have hm1 : ((n : Int) == -1) = false := by
    rw [beq_eq_false_iff_ne]
    omega
  have hq : ¬ ((rest.length : Int) / 12 < (n : Int)) := by omega
  clear H
  go_enter Tryd.func13, Tryd.ntmps13
  go_wp2_with fail
  refine HI.out.mono ?_
  rintro e w1 ⟨rfl, hD, hG⟩
  have HD := Hid.mk (And.intro hD hG)
  obtain ⟨g, o, c, c0⟩ := hD.cell
  clear hD hG
  go_wp2_with fail
  go_ret
  exact ⟨rfl, HD.out.1, HD.out.2⟩

set_option maxHeartbeats 1600000 in
theorem count1_any {w : World} {D : Nat} (n : Nat) (rest : List UInt8) (H : DecS w D (be4 (n : Int) ++ rest)) (hn : n ≤ 1048576) (hr : 1 * n ≤ rest.length) (hl : 4 + rest.length ≤ 140737488355328) :
    Calls Tryd.prog 13 #[.pointer (some ⟨D, 0, none⟩), .int .i64 1] w fun e w' => e = .returned (.int .i64 (n : Int)) ∧ DecS w' D rest ∧ w.grownBy w' (some D) := by
  have HI := Hid.mk (dint_any (n : Int) rest H (by omega) (by omega) hl)
  have hm1 : ((n : Int) == -1) = false := by
    rw [beq_eq_false_iff_ne]
    omega
  have hq : ¬ ((rest.length : Int) < (n : Int)) := by omega
  clear H
  go_enter Tryd.func13, Tryd.ntmps13
  go_wp2_with fail
  refine HI.out.mono ?_
  rintro e w1 ⟨rfl, hD, hG⟩
  have HD := Hid.mk (And.intro hD hG)
  obtain ⟨g, o, c, c0⟩ := hD.cell
  clear hD hG
  go_wp2_with fail
  go_ret
  exact ⟨rfl, HD.out.1, HD.out.2⟩

def aclCells (l : List Acl) : List Value := l.flatMap fun a => [.int .i32 a.perms, .string a.scheme, .string a.id]
theorem aclCells_length (l : List Acl) : (aclCells l).length = l.length * 3 := by
  unfold aclCells
  induction l with
  | nil => rfl
  | cons a l ih => simp only [List.flatMap_cons, List.length_append, ih, List.length_cons, List.length_nil]; omega

theorem info64 : (Tryd.prog.info? 64).map (fun i => (i.zero, i.size, i.bytes)) = some (some (.agg #[.int .i32 0, .string ⟨#[]⟩, .string ⟨#[]⟩]), 3, 40) := by kernel_rfl

/-- n entries, all zero. -/
def aclZeros (n : Nat) : Array Value := madeCells #[.int .i32 0, .string ⟨#[]⟩, .string ⟨#[]⟩] (n * 3)

theorem run_make0 (n : Nat) (h : n ≤ 1048576) (w : World) : (Instr.makeSlice 36 (.int .i64 0) (.int .i64 (n : Int))).run Tryd.prog w = .ok (.slice (some ⟨w.heap.size, 0, none⟩) 0 n) (w.alloc (.cells (aclZeros n) 64)) := by
  obtain ⟨i, hi, hz0, hz1, hz2⟩ := info_parts info64
  have := run_make (P := Tryd.prog) w 36 64 i (.agg #[.int .i32 0, .string ⟨#[]⟩, .string ⟨#[]⟩]) Tryd.underlying36 hi hz0 .i64 .i64 0 (n : Int) (by omega) (by omega) (by rw [hz2]; omega) (by omega)
  rw [hz1] at this
  simp only [Int.toNat_natCast] at this
  exact this

theorem DecS.grown {w w' : World} {D : Nat} {r : List UInt8} {base : Nat} {v : Value} {n : Nat} {xs : List Value} (H : DecS w D r) (hO : w.ownsRow base 64 3 v n xs) (g : w.grownBy w' v.ownBlock) : DecS w' D r := by
  obtain ⟨g0, o, c, arr, fr, h1, h2, h3, h4⟩ := H
  have ne : ∀ {k : Nat} {ob : Obj}, w.heap[k]? = some ob → (∀ c f, ob ≠ .cells c 64 f) → w'.heap[k]? = some ob := by
    intro k ob hk hob
    refine (g.block k (Array.getElem?_eq_some_iff.1 hk).1 ?_).trans hk
    intro e
    obtain ⟨_, hh⟩ := hO
    rcases hh with ⟨rfl, _⟩ | ⟨g', cap, cur, rfl, _, hh, _⟩
    · cases e
    · cases e
      rw [hk] at hh
      exact hob _ _ (Option.some.inj hh)
  exact ⟨g0, o, c, arr, fr, ne h1 (fun c f e => by cases e), ne h2 (fun c f e => by cases e), h3, h4⟩

theorem grown_low {w a b : World} {D : Nat} {v : Value} {n : Nat} {xs : List Value} (h : w.grownBy a (some D)) (hO : a.ownsRow w.heap.size 64 3 v n xs) (g : a.grownBy b v.ownBlock) : w.grownBy b (some D) := by
  refine ⟨g.os.trans h.os, g.tape.trans h.tape, g.output.trans h.output, Nat.le_trans h.size g.size, fun k hk hr => (g.block k (Nat.lt_of_lt_of_le hk h.size) ?_).trans (h.block k hk hr)⟩
  intro e
  have := (World.ownsRow.lt hO k e.symm).1
  omega

theorem drop_next (l : List Acl) (k : Nat) (h : k < l.length) : (l.drop k).flatMap encAcl = encAcl (l.getD k default) ++ (l.drop (k + 1)).flatMap encAcl := by
  rw [List.drop_eq_getElem_cons h, List.flatMap_cons]
  simp [List.getElem?_eq_getElem h]
theorem drop_le (l : List Acl) (k : Nat) : ((l.drop k).flatMap encAcl).length ≤ (l.flatMap encAcl).length := by
  conv => rhs; rw [← List.take_append_drop k l]
  rw [List.flatMap_append, List.length_append]
  omega
theorem acl_min (l : List Acl) : 12 * l.length ≤ (l.flatMap encAcl).length := by
  induction l with
  | nil => simp
  | cons a l ih =>
    rw [List.flatMap_cons, List.length_append, encAcl_length, List.length_cons]
    omega
theorem cells_next (l : List Acl) (k : Nat) (h : k < l.length) : aclCells (l.take (k + 1)) = aclCells (l.take k) ++ [.int .i32 (l.getD k default).perms, .string (l.getD k default).scheme, .string (l.getD k default).id] := by
  unfold aclCells
  rw [List.take_add_one, List.flatMap_append, List.getElem?_eq_getElem h]
  simp [List.getElem?_eq_getElem h]

set_option maxRecDepth 100000 in
set_option maxHeartbeats 3200000 in
theorem dacls_any {w : World} {D : Nat} (l : List Acl) (rest : List UInt8) (H : DecS w D (encAcls l ++ rest)) (hn : l.length ≤ 1048576) (hs : ∀ a ∈ l, a.scheme.size ≤ 1048576 ∧ a.id.size ≤ 1048576) (hp : ∀ a ∈ l, -2147483648 ≤ a.perms ∧ a.perms < 2147483648) (hl : (encAcls l).length + rest.length ≤ 140737488355328) :
    Calls Tryd.prog 24 #[.pointer (some ⟨D, 0, none⟩)] w fun e w' => ∃ v, e = .returned v ∧ w'.ownsRow w.heap.size 64 3 v l.length (aclCells l) ∧ DecS w' D rest ∧ w.grownBy w' (some D) := by
  have hlen : 4 + (l.flatMap encAcl).length + rest.length ≤ 140737488355328 := by
    unfold encAcls at hl
    rw [List.length_append, be4_length] at hl
    exact hl
  have hDl : D < w.heap.size := by
    obtain ⟨g, o, c, arr, fr, hD, _⟩ := H
    exact (Array.getElem?_eq_some_iff.1 hD).1
  have H' : DecS w D (be4 (l.length : Int) ++ (l.flatMap encAcl ++ rest)) := by
    have h := H
    unfold encAcls at h
    rw [List.append_assoc] at h
    exact h
  have HC := Hid.mk (count12_any l.length (l.flatMap encAcl ++ rest) H' hn (by have := acl_min l; rw [List.length_append]; omega) (by rw [List.length_append]; omega))
  have HS := Hid.mk (And.intro hs hp)
  clear H H' hs hp
  by_cases h0 : l.length = 0
  · have hl0 : l = [] := List.length_eq_zero_iff.1 h0
    subst hl0
    go_enter Tryd.func24, Tryd.ntmps24
    go_wp2_with fail
    refine HC.out.mono ?_
    rintro e w1 ⟨rfl, hD, hG⟩
    have HD := Hid.mk (And.intro hD hG)
    clear hD hG
    go_wp2_with fail
    go_ret
    exact ⟨_, rfl, World.ownsRow_nil _ _ _ _, HD.out.1, HD.out.2⟩
  · obtain ⟨i0, hi, hz0, hz1, hz2⟩ := info_parts info64
    have b0 : ((l.length : Int) == 0) = false := by
      rw [beq_eq_false_iff_ne]
      omega
    have hmk := run_make0 l.length hn
    have HMK := Hid.mk hmk
    go_enter Tryd.func24, Tryd.ntmps24
    go_wp2_with fail
    refine HC.out.mono ?_
    rintro e w1 ⟨rfl, hD, hG⟩
    have H1 : Hid ((w1.alloc (.cells (aclZeros l.length) 64)).ownsRow w.heap.size 64 3 (.slice (some ⟨w1.heap.size, 0, none⟩) 0 l.length) 0 (aclCells (l.take 0)) ∧ DecS (w1.alloc (.cells (aclZeros l.length) 64)) D ((l.drop 0).flatMap encAcl ++ rest) ∧ w.grownBy (w1.alloc (.cells (aclZeros l.length) 64)) (some D)) := by
      refine ⟨World.ownsRow_made w1 (aclZeros l.length) l.length hG.size (by unfold maxLen; omega) (by unfold aclZeros; exact size_madeCells _ _), ?_, grown_trans hG (World.grownBy_alloc _ _ _)⟩
      exact hD.below ((Below.refl _ _).alloc (Nat.le_refl _) _)
    clear hD hG
    go_wp2_with fail
    generalize w1.alloc (.cells (aclZeros l.length) 64) = w2 at H1 ⊢
    generalize w1.heap.size = b at H1 ⊢
    go_loopw [4, 12] (fun v t wr => ∃ k g cap : Nat, k ≤ l.length ∧ t = .int .i64 k ∧ v = .slice (some ⟨g, 0, none⟩) k cap ∧ Hid (wr.ownsRow w.heap.size 64 3 (.slice (some ⟨g, 0, none⟩) k cap) k (aclCells (l.take k)) ∧ DecS wr D ((l.drop k).flatMap encAcl ++ rest) ∧ w.grownBy wr (some D))) (fun v t _ => l.length - (intOf t).toNat)
    case atStart => exact ⟨0, b, l.length, Nat.zero_le _, rfl, rfl, H1⟩
    case round =>
      clear H1 hmk
      obtain ⟨k, g, cap, hk, rfl, rfl, HR⟩ := hrel
      by_cases hlt : k < l.length
      · have hlt' : (k : Int) < (l.length : Int) := by omega
        obtain ⟨a, ha⟩ : ∃ a, a = l.getD k default := ⟨_, rfl⟩
        have ham : a ∈ l := by
          rw [ha, List.getD_eq_getElem?_getD, List.getElem?_eq_getElem hlt]
          exact List.getElem_mem hlt
        have hsz := HS.out.1 a ham
        have hpz := HS.out.2 a ham
        have HN := Hid.mk (cells_next l k hlt)
        rw [← ha] at HN
        have hrl : 12 + wAcl a + ((l.drop (k + 1)).flatMap encAcl ++ rest).length ≤ 140737488355328 := by
          have h1 := drop_le l k
          rw [drop_next l k hlt, List.length_append, ← ha, encAcl_length] at h1
          rw [List.length_append]
          omega
        have HR1 : Hid (wr.ownsRow w.heap.size 64 3 (.slice (some ⟨g, 0, none⟩) k cap) k (aclCells (l.take k)) ∧ DecS wr D (be4 a.perms ++ (encStr a.scheme ++ (encStr a.id ++ ((l.drop (k + 1)).flatMap encAcl ++ rest)))) ∧ w.grownBy wr (some D)) := by
          have h := HR.out
          rw [drop_next l k hlt, ← ha] at h
          unfold encAcl at h
          simp only [List.append_assoc] at h
          unfold encAcl
          exact h
        have hwa : wAcl a = a.scheme.size + a.id.size := rfl
        clear HR ha
        generalize hrs : (l.drop (k + 1)).flatMap encAcl ++ rest = rs at HR1 hrl
        have HRS := Hid.mk hrs
        clear hrs
        generalize aclCells (l.take k) = xs at HR1 HN
        go_wp2_with fail
        refine (dint_any a.perms _ HR1.out.2.1 hpz.1 hpz.2 (by simp only [List.length_append, encStr_length]; omega)).mono ?_
        rintro e w3 ⟨rfl, hD, hG⟩
        have H3 := Hid.mk (And.intro hD (And.intro (grown_trans HR1.out.2.2 hG) (World.ownsRow.kept HR1.out.1 hG (.inr (fun e => by have := (World.ownsRow.lt HR1.out.1 D e).1; omega)))))
        clear hD hG HR1
        go_wp2_with fail
        refine (dstr_any a.scheme _ H3.out.1 hsz.1 (by simp only [List.length_append, encStr_length]; omega)).mono ?_
        rintro e w4 ⟨rfl, hD, hG⟩
        have H4 := Hid.mk (And.intro hD (And.intro (grown_trans H3.out.2.1 hG) (World.ownsRow.kept H3.out.2.2 hG (.inr (fun e => by have := (World.ownsRow.lt H3.out.2.2 D e).1; omega)))))
        clear hD hG H3
        go_wp2_with fail
        refine (dstr_any a.id _ H4.out.1 hsz.2 (by omega)).mono ?_
        rintro e w5 ⟨rfl, hD, hG⟩
        have H5 := Hid.mk (And.intro hD (And.intro (grown_trans H4.out.2.1 hG) (World.ownsRow.kept H4.out.2.2 hG (.inr (fun e => by have := (World.ownsRow.lt H4.out.2.2 D e).1; omega)))))
        clear hD hG H4
        have hb5 : w.heap.size ≤ w5.heap.size := H5.out.2.1.size
        go_wp2_with (at_builtin; refine wpList_append_own _ rfl _ _ 36 rfl w.heap.size 64 i0 (.agg #[.int .i32 0, .string ⟨#[]⟩, .string ⟨#[]⟩]) 3 40 Tryd.underlying36 hi hz0 hz1 hz2 rfl (by decide) _ k xs rfl (World.ownsRow.alloc H5.out.2.2 _) _ 1 1 [.int .i32 a.perms, .string a.scheme, .string a.id] rfl rfl ?c1 ?c2 ?c3 ?c4 ?c5 ?_)
        case c1 =>
          intro j u hj
          match j, hj with
          | 0, hj => simp at hj; subst hj; simp [Addr.add]
          | 1, hj => simp at hj; subst hj; simp [Addr.add]
          | 2, hj => simp at hj; subst hj; simp [Addr.add]
        case c2 => intro u hu; simp at hu; rcases hu with rfl | rfl | rfl <;> rfl
        case c3 => unfold maxLen; omega
        case c4 => omega
        case c5 => simp; omega
        intro v6 w6 hO6 hg6 _
        have hsh : ∃ g cap, v6 = .slice (some ⟨g, 0, none⟩) (k + 1) cap := by
          obtain ⟨_, h2⟩ := hO6
          rcases h2 with ⟨_, h3⟩ | ⟨g, cap, cur, h3, _⟩
          · omega
          · exact ⟨g, cap, h3⟩
        obtain ⟨g6, cap6, rfl⟩ := hsh
        have hD6 : DecS w6 D rs := (H5.out.1.below ((Below.refl _ _).alloc (Nat.le_refl _) (.cells #[.int .i32 a.perms, .string a.scheme, .string a.id] 64))).grown (World.ownsRow.alloc H5.out.2.2 _) hg6
        have hG6 : w.grownBy w6 (some D) := grown_low (grown_trans H5.out.2.1 (World.grownBy_alloc _ _ _)) (World.ownsRow.alloc H5.out.2.2 _) hg6
        have H6 := Hid.mk (And.intro hO6 (And.intro hD6 hG6))
        clear hO6 hg6 hD6 hG6 H5
        go_wp2_with fail
        refine ⟨⟨k + 1, g6, cap6, by omega, by go_num, rfl, ?_⟩, by simp [intOf]; omega⟩
        rw [HN.out, HRS.out]
        exact H6
      · have : k = l.length := by omega
        subst this
        go_wp2_with fail
        go_ret
        have h := HR.out
        rw [List.take_length, List.drop_length] at h
        exact ⟨_, rfl, h.1, h.2.1, h.2.2⟩

end Go.Proofs.Qxb6609425aDoor
