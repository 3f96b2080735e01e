/-
  Seat Qxb6609425aDoor: the encoder: access lists.
-/
import Derived.Test.Qxb6609425aDoorEnc4
namespace Go.Proofs.Qxb6609425aDoor
open Go.RowKit
set_option linter.unusedVariables false
set_option linter.unusedSimpArgs false

/-- An access list in a row of the call's own. -/
def AclRow (w : World) (v : Value) (l : List Acl) : Prop :=
  (v = .slice none 0 0 ∧ l = []) ∨ ∃ b c arr, v = .slice (some ⟨b, 0, none⟩) l.length c ∧ w.heap[b]? = some (.cells arr 64) ∧
    ∀ i, i < l.length → arr[i * 3]? = some (.int .i32 (l.getD i default).perms) ∧ arr[i * 3 + 1]? = some (.string (l.getD i default).scheme) ∧ arr[i * 3 + 2]? = some (.string (l.getD i default).id)

theorem ne_enc {w : World} {E base b : Nat} {xs : List UInt8} {arr : Array Value} {t : TypeId} (H : EncS w E base xs) (hb : w.heap[b]? = some (.cells arr t)) (ht : t ≠ 62) : b ≠ E := by
  rintro rfl
  obtain ⟨v, hE, _⟩ := H
  rw [hb] at hE
  cases hE
  exact ht rfl

theorem kept_row {w w' : World} {E base b : Nat} {xs : List UInt8} {arr : Array Value} {t : TypeId} (H : EncS w E base xs) (k : Kept w w' E base) (hb : w.heap[b]? = some (.cells arr t)) (h5 : t ≠ 5) (ht : t ≠ 62) : w'.heap[b]? = some (.cells arr t) :=
  k.block b _ hb (.inr ⟨ne_enc H hb ht, fun c f e => by cases e; exact h5 rfl⟩)

theorem AclRow.kept {w w' : World} {E base : Nat} {xs : List UInt8} {v : Value} {l : List Acl} (A : AclRow w v l) (H : EncS w E base xs) (k : Kept w w' E base) : AclRow w' v l := by
  rcases A with h | ⟨b, c, arr, h1, h2, h3⟩
  · exact .inl h
  · exact .inr ⟨b, c, arr, h1, kept_row H k h2 (by decide) (by decide), h3⟩

theorem EncS.alloc {w : World} {E base : Nat} {xs : List UInt8} (H : EncS w E base xs) (o : Obj) : EncS (w.alloc o) E base xs := by
  obtain ⟨v, h1, h2, h3⟩ := H
  exact ⟨v, (Below.heap_alloc _ _ _ (Array.getElem?_eq_some_iff.1 h1).1).trans h1, h2.alloc o, h3⟩
theorem Kept.alloc (w : World) (E base : Nat) (o : Obj) : Kept w (w.alloc o) E base := Kept.below ((Below.refl _ w).alloc (Nat.le_refl _) o)
theorem heap_new (w : World) (o : Obj) : (w.alloc o).heap[w.heap.size]? = some o := (MapKept.heap_alloc w o).1

theorem take_next {α : Type} [Inhabited α] (l : List α) (f : α → List UInt8) (k : Nat) (h : k < l.length) : (l.take (k + 1)).flatMap f = (l.take k).flatMap f ++ f (l.getD k default) := by
  rw [List.take_add_one, List.flatMap_append, List.getElem?_eq_getElem h]
  simp [List.getElem?_eq_getElem h]
theorem take_le {α : Type} (l : List α) (f : α → List UInt8) (k : Nat) : ((l.take k).flatMap f).length ≤ (l.flatMap f).length := by
  conv => rhs; rw [← List.take_append_drop k l]
  rw [List.flatMap_append, List.length_append]
  omega

theorem cell_in {w : World} {b : Nat} {arr : Array Value} {t : TypeId} (h : w.heap[b]? = some (.cells arr t)) (o : Nat) (v : Value) (hv : arr[o]? = some v) : w.cell? ⟨b, o, none⟩ = some v := by
  simp [World.cell?, h, hv]

theorem encAcl_length (a : Acl) : (encAcl a).length = 12 + wAcl a := by
  unfold encAcl encStr wAcl
  simp only [List.length_append, be4_length, size_list]
  omega

set_option maxRecDepth 100000 in
set_option maxHeartbeats 1600000 in
theorem acls_any {w : World} {E base : Nat} {xs : List UInt8} (H : EncS w E base xs) (hb : base ≤ w.heap.size) (v : Value) (l : List Acl) (A : AclRow w v l) (hl : l.length ≤ 1048576) (hs : ∀ a ∈ l, a.scheme.size ≤ 1048576 ∧ a.id.size ≤ 1048576) (hlim : xs.length + (encAcls l).length ≤ 140737488355328) :
    Calls Tryd.prog 38 #[.pointer (some ⟨E, 0, none⟩), v] w fun e w' => e = .returned (.tuple #[]) ∧ EncS w' E base (xs ++ encAcls l) ∧ Kept w w' E base := by
  have hL : xs.length + (4 + (l.flatMap encAcl).length) ≤ 140737488355328 := by
    unfold encAcls at hlim
    rw [List.length_append, be4_length] at hlim
    exact hlim
  rcases A with ⟨rfl, rfl⟩ | ⟨b, c, arr, rfl, hbl, hcs⟩
  · have HI := Hid.mk (int_any H hb (by omega) 0)
    clear H
    go_enter Tryd.func38, Tryd.ntmps38
    go_wp2_with fail
    refine HI.out.mono ?_
    rintro e w1 ⟨rfl, hS, hK⟩
    have HS := Hid.mk (And.intro hS hK)
    clear hS hK
    go_wp2_with fail
    go_loop [13] (fun t => t = .int .i64 0) (fun t => 0)
    case atStart => rfl
    case round =>
      subst hrel
      go_wp2_with fail
      go_end0
      have e1 : encAcls [] = be4 0 := by simp [encAcls]
      rw [e1]
      exact ⟨rfl, HS.out.1, HS.out.2⟩
  · have HI := Hid.mk (int_any H hb (by omega) (l.length : Int))
    have HH := Hid.mk H
    have HB := Hid.mk (And.intro hbl hcs)
    have HS := Hid.mk hs
    clear H hbl hcs hs
    go_enter Tryd.func38, Tryd.ntmps38
    go_wp2_with fail
    refine HI.out.mono ?_
    rintro e w1 ⟨rfl, hS1, hK1⟩
    have H1 : Hid (EncS w1 E base (xs ++ (be4 (l.length : Int) ++ (l.take 0).flatMap encAcl)) ∧ Kept w w1 E base) := ⟨by simpa using hS1, hK1⟩
    clear hS1 hK1 HI
    go_wp2_with fail
    go_loopw [13] (fun t wr => ∃ k : Nat, k ≤ l.length ∧ t = .int .i64 k ∧ Hid (EncS wr E base (xs ++ (be4 (l.length : Int) ++ (l.take k).flatMap encAcl)) ∧ Kept w wr E base)) (fun t _ => l.length - (intOf t).toNat)
    case atStart => exact ⟨0, Nat.zero_le _, rfl, H1⟩
    case round =>
      clear H1
      obtain ⟨k, hk, rfl, HR⟩ := hrel
      by_cases hlt : k < l.length
      · have hlt' : (k : Int) < (l.length : Int) := by omega
        have hrow := kept_row HH.out HR.out.2 HB.out.1 (by decide) (by decide)
        obtain ⟨a, ha⟩ : ∃ a, a = l.getD k default := ⟨_, rfl⟩
        have ham : a ∈ l := by
          rw [ha, List.getD_eq_getElem?_getD, List.getElem?_eq_getElem hlt]
          exact List.getElem_mem hlt
        obtain ⟨q0, q1, q2⟩ := HB.out.2 k hlt
        rw [← ha] at q0 q1 q2
        obtain ⟨o, ho⟩ : ∃ o, o = k * 3 := ⟨_, rfl⟩
        rw [← ho] at q0 q1 q2
        have c0 := cell_in hrow o _ q0
        have c1 := cell_in hrow (o + 1) _ q1
        have c2 := cell_in hrow (o + 2) _ q2
        have ho' : k * 3 = o := ho.symm
        have hsz := HS.out a ham
        have hlen : (xs ++ (be4 (l.length : Int) ++ (l.take k).flatMap encAcl)).length + (12 + wAcl a) ≤ 140737488355328 := by
          have h1 := take_le l encAcl (k + 1)
          rw [take_next l encAcl k hlt, List.length_append, ← ha, encAcl_length] at h1
          simp only [List.length_append, be4_length]
          omega
        have hnx : Hid (xs ++ (be4 (l.length : Int) ++ (l.take (k + 1)).flatMap encAcl) = (xs ++ (be4 (l.length : Int) ++ (l.take k).flatMap encAcl)) ++ be4 a.perms ++ encStr a.scheme ++ encStr a.id) := by
          unfold Hid
          rw [take_next l encAcl k hlt, ← ha]
          unfold encAcl
          simp only [List.append_assoc]
        have hbr : base ≤ wr.heap.size := Nat.le_trans hb HR.out.2.size
        have hwa : wAcl a = a.scheme.size + a.id.size := rfl
        clear hrow q0 q1 q2 ha ho
        generalize xs ++ (be4 (l.length : Int) ++ (l.take k).flatMap encAcl) = ys at HR hlen hnx
        go_wp2_with fail
        have hcb := heap_new wr (.cells #[.int .i32 a.perms, .string a.scheme, .string a.id] 64)
        have HW : Hid (EncS (wr.alloc (.cells #[.int .i32 a.perms, .string a.scheme, .string a.id] 64)) E base ys ∧ Kept w (wr.alloc (.cells #[.int .i32 a.perms, .string a.scheme, .string a.id] 64)) E base) := ⟨HR.out.1.alloc _, HR.out.2.trans (Kept.alloc _ _ _ _)⟩
        have hbw : base ≤ (wr.alloc (.cells #[.int .i32 a.perms, .string a.scheme, .string a.id] 64)).heap.size := Nat.le_trans hb HW.out.2.size
        clear HR hbr c0 c1 c2 ho'
        generalize wr.alloc (.cells #[.int .i32 a.perms, .string a.scheme, .string a.id] 64) = W2 at HW hcb hbw ⊢
        generalize wr.heap.size = cb at hcb ⊢
        have HCB := Hid.mk hcb
        clear hcb
        refine (int_any HW.out.1 hbw (by omega) a.perms).mono ?_
        rintro e w3 ⟨rfl, hS3, hK3⟩
        have H3 := Hid.mk (And.intro hS3 (And.intro (HW.out.2.trans hK3) (kept_row HW.out.1 hK3 HCB.out (by decide) (by decide))))
        clear hS3 hK3 HW HCB hbw
        have d1 := cell_in H3.out.2.2 1 _ rfl
        have hb3 : base ≤ w3.heap.size := Nat.le_trans hb H3.out.2.1.size
        go_wp2_with fail
        refine (string_any H3.out.1 hb3 a.scheme hsz.1 (by rw [List.length_append, be4_length]; omega)).mono ?_
        rintro e w4 ⟨rfl, hS4, hK4⟩
        have H4 := Hid.mk (And.intro hS4 (And.intro (H3.out.2.1.trans hK4) (kept_row H3.out.1 hK4 H3.out.2.2 (by decide) (by decide))))
        clear hS4 hK4 H3 d1 hb3
        have d2 := cell_in H4.out.2.2 2 _ rfl
        have hb4 : base ≤ w4.heap.size := Nat.le_trans hb H4.out.2.1.size
        go_wp2_with fail
        refine (string_any H4.out.1 hb4 a.id hsz.2 (by unfold encStr; simp only [List.length_append, be4_length, size_list]; omega)).mono ?_
        rintro e w5 ⟨rfl, hS5, hK5⟩
        have H5 := Hid.mk (And.intro hS5 (H4.out.2.1.trans hK5))
        clear hS5 hK5 H4 d2 hb4
        go_wp2_with fail
        refine ⟨⟨k + 1, by omega, by go_num, ?_⟩, by simp [intOf]; omega⟩
        rw [hnx.out]
        exact H5
      · have : k = l.length := by omega
        subst this
        go_wp2_with fail
        go_end0
        have h := HR.out
        rw [List.take_length] at h
        exact ⟨rfl, h.1, h.2⟩

end Go.Proofs.Qxb6609425aDoor
