/-
  Seat Qxb6609425aDoor: sameACL.
-/
import Derived.Test.Qxb6609425aDoorDec3
namespace Go.Proofs.Qxb6609425aDoor
open Go.RowKit
set_option linter.unusedVariables false
set_option linter.unusedSimpArgs false

theorem aclCells_get (l : List Acl) (k : Nat) (h : k < l.length) : (aclCells l)[k * 3]? = some (.int .i32 (l.getD k default).perms) ∧ (aclCells l)[k * 3 + 1]? = some (.string (l.getD k default).scheme) ∧ (aclCells l)[k * 3 + 2]? = some (.string (l.getD k default).id) := by
  induction l generalizing k with
  | nil => simp at h
  | cons a l ih =>
    cases k with
    | zero => simp [aclCells]
    | succ k =>
      have h' : k < l.length := by simpa using h
      obtain ⟨h1, h2, h3⟩ := ih k h'
      have e : ∀ j, (aclCells (a :: l))[(k + 1) * 3 + j]? = (aclCells l)[k * 3 + j]? := fun j => by
        unfold aclCells
        rw [List.flatMap_cons, List.getElem?_append_right (by simp; omega)]
        congr 1
        simp
        omega
      refine ⟨?_, ?_, ?_⟩
      · have := e 0
        simp only [Nat.add_zero] at this
        rw [this, h1]
        rfl
      · rw [e 1, h2]
        rfl
      · rw [e 2, h3]
        rfl

theorem sameACL_nil (w : World) (a a' : Option Addr) (c c' : Nat) : Calls Tryd.prog 26 #[.slice a 0 c, .slice a' 0 c'] w fun e w' => e = .returned (.bool true) ∧ ∃ n, w' = w.drewN n := by
  go_enter Tryd.func26, Tryd.ntmps26
  go_wp2
  go_loop [5] (fun t => t = .int .i64 0) (fun t => 0)
  case atStart => rfl
  case round =>
    subst hrel
    go_wp2
    go_ret
    exact ⟨rfl, 0, rfl⟩

set_option maxRecDepth 100000 in
set_option maxHeartbeats 1600000 in
theorem sameACL_some (w : World) (g cap : Nat) (x : Addr) (c : Nat) (l : List Acl) (hl : l.length ≤ 1048576)
    (hg : ∀ k, k < l.length → w.cell? ⟨g, k * 3, none⟩ = some (.int .i32 (l.getD k default).perms) ∧ w.cell? ⟨g, k * 3 + 1, none⟩ = some (.string (l.getD k default).scheme) ∧ w.cell? ⟨g, k * 3 + 2, none⟩ = some (.string (l.getD k default).id))
    (hx : ∀ k, k < l.length → w.cell? (x.add (k * 3)) = some (.int .i32 (l.getD k default).perms) ∧ w.cell? (x.add (k * 3 + 1)) = some (.string (l.getD k default).scheme) ∧ w.cell? (x.add (k * 3 + 2)) = some (.string (l.getD k default).id)) :
    Calls Tryd.prog 26 #[.slice (some ⟨g, 0, none⟩) l.length cap, .slice (some x) l.length c] w fun e w' => e = .returned (.bool true) ∧ ∃ n, w' = w.drewN n := by
  have HG := Hid.mk hg
  have HX := Hid.mk hx
  clear hg hx
  go_enter Tryd.func26, Tryd.ntmps26
  go_wp2
  go_loopw [5] (fun t wr => ∃ k n : Nat, k ≤ l.length ∧ t = .int .i64 k ∧ wr = w.drewN n) (fun t _ => l.length - (intOf t).toNat)
  case atStart => exact ⟨0, 0, Nat.zero_le _, rfl, rfl⟩
  case round =>
    obtain ⟨k, n, hk, rfl, rfl⟩ := hrel
    by_cases hlt : k < l.length
    · have hlt' : (k : Int) < (l.length : Int) := by omega
      obtain ⟨p0, p1, p2⟩ := HG.out k hlt
      obtain ⟨q0, q1, q2⟩ := HX.out k hlt
      obtain ⟨a, ha⟩ : ∃ a, a = l.getD k default := ⟨_, rfl⟩
      obtain ⟨o, ho⟩ : ∃ o, o = k * 3 := ⟨_, rfl⟩
      obtain ⟨y, hy⟩ : ∃ y, y = x.add o := ⟨_, rfl⟩
      rw [← ha, ← ho] at p0 p1 p2 q0 q1 q2
      rw [← Go.Deep.add_add, ← hy] at q1 q2
      rw [← hy] at q0
      have ho' : k * 3 = o := ho.symm
      have hy' : x.add o = y := hy.symm
      obtain ⟨pm, hpm⟩ : ∃ z, z = a.perms := ⟨_, rfl⟩
      obtain ⟨sc, hsc⟩ : ∃ z, z = a.scheme := ⟨_, rfl⟩
      obtain ⟨sd, hsd⟩ : ∃ z, z = a.id := ⟨_, rfl⟩
      rw [← hpm] at p0 q0
      rw [← hsc] at p1 q1
      rw [← hsd] at p2 q2
      rw [show y.add 1 = ⟨y.block, y.off + 1, none⟩ from rfl] at q1
      rw [show y.add 2 = ⟨y.block, y.off + 2, none⟩ from rfl] at q2
      clear ha ho hy hpm hsc hsd
      go_wp2_with fail
      go_quiet (fail)
      go_wp2_with fail
      exact ⟨⟨k + 1, _, by omega, by go_num, rfl⟩, by simp [intOf]; omega⟩
    · go_wp2_with fail
      go_ret
      exact ⟨rfl, n, rfl⟩

theorem sameACL_any (w : World) (base : Nat) (v v' : Value) (l : List Acl) (hl : l.length ≤ 1048576) (h : w.ownsRow base 64 3 v l.length (aclCells l)) (h' : AclsIn w v' l) :
    Calls Tryd.prog 26 #[v, v'] w fun e w' => e = .returned (.bool true) ∧ ∃ n, w' = w.drewN n := by
  have hO := h
  obtain ⟨_, h2⟩ := h
  rcases h2 with ⟨rfl, h3⟩ | ⟨g, cap, cur, rfl, _⟩
  · have e : l = [] := List.length_eq_zero_iff.1 h3
    subst e
    rcases h' with ⟨rfl, _⟩ | ⟨x, c, rfl, _⟩
    · exact sameACL_nil w none none 0 0
    · exact sameACL_nil w none (some x) 0 c
  · rcases h' with ⟨rfl, rfl⟩ | ⟨x, c, rfl, hx⟩
    · exact sameACL_nil w _ none cap 0
    · refine sameACL_some w g cap x c l hl (fun k hk => ?_) hx
      obtain ⟨e0, e1, e2⟩ := aclCells_get l k hk
      refine ⟨?_, ?_, ?_⟩
      · have := World.ownsRow.cells hO (g := g) rfl (k * 3) _ e0
        rw [Addr.add_lit, Nat.zero_add] at this
        exact this
      · have := World.ownsRow.cells hO (g := g) rfl (k * 3 + 1) _ e1
        rw [Addr.add_lit, Nat.zero_add] at this
        exact this
      · have := World.ownsRow.cells hO (g := g) rfl (k * 3 + 2) _ e2
        rw [Addr.add_lit, Nat.zero_add] at this
        exact this

end Go.Proofs.Qxb6609425aDoor
