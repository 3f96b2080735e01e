/-
  Seat Qxb6612991aDoorRR: the readers of a reader's fields: contracts.
-/
import Derived.Test.Qxb6612991aDoorRRNew3
namespace Go.Proofs.Qxb6612991aDoorRR
open Go.RowKit
set_option linter.unusedVariables false
set_option linter.unusedSimpArgs false

section
variable {w : World} {R wd : Nat} {ht d ct : Int} {pv tv bufv pxv env : Value} {sc : Int}

theorem rd_at (h : w.heap[R]? = some (rdObj (wd : Int) ht d ct pv tv bufv pxv env sc)) :
    w.cell? ⟨R, 0, none⟩ = some (.int .i64 (wd : Int)) ∧ w.cell? ⟨R, 1, none⟩ = some (.int .i64 ht) ∧ w.cell? ⟨R, 2, none⟩ = some (.int .i64 d) ∧ w.cell? ⟨R, 3, none⟩ = some (.int .u8 ct) ∧ w.cell? ⟨R, 5, none⟩ = some pv ∧ w.cell? ⟨R, 6, none⟩ = some tv ∧ w.cell? ⟨R, 9, none⟩ = some bufv ∧ w.cell? ⟨R, 10, none⟩ = some pxv ∧ w.cell? ⟨R, 11, none⟩ = some env ∧ w.cell? ⟨R, 12, none⟩ = some (.int .u16 sc) := by
  simp [World.cell?, h, rdObj]

theorem buf_any (h : w.heap[R]? = some (rdObj (wd : Int) ht d ct pv tv bufv pxv env sc)) : Calls Tryd.prog 11 #[.pointer (some ⟨R, 0, none⟩)] w fun e w' => e = .returned bufv ∧ w = w' := by
  obtain ⟨_, _, _, _, _, _, c, _, _, _⟩ := rd_at h
  clear h
  go_enter Tryd.func11, Tryd.ntmps11
  go_wp2
  go_ret
  exact ⟨rfl, rfl⟩

theorem pxlen_any {a : Option Addr} {m c : Nat} (h : w.heap[R]? = some (rdObj (wd : Int) ht d ct pv tv bufv (.slice a m c) env sc)) : Calls Tryd.prog 13 #[.pointer (some ⟨R, 0, none⟩)] w fun e w' => e = .returned (.int .i64 (m : Int)) ∧ w = w' := by
  obtain ⟨_, _, _, _, _, _, _, c, _, _⟩ := rd_at h
  clear h
  go_enter Tryd.func13, Tryd.ntmps13
  go_wp2
  go_ret
  exact ⟨rfl, rfl⟩

theorem px_any {pb m : Nat} (h : w.heap[R]? = some (rdObj (wd : Int) ht d ct pv tv bufv (.slice (some ⟨pb, 0, none⟩) m m) env sc)) (hm : m ≤ 65536) (i : Nat) (hi : i < m) (y : Int) (hc : w.cell? ⟨pb, i, none⟩ = some (.int .u64 y)) :
    Calls Tryd.prog 14 #[.pointer (some ⟨R, 0, none⟩), .int .i64 (i : Int)] w fun e w' => e = .returned (.int .u64 y) ∧ w = w' := by
  obtain ⟨_, _, _, _, _, _, _, c, _, _⟩ := rd_at h
  clear h
  go_enter Tryd.func14, Tryd.ntmps14
  go_wp2
  go_ret
  exact ⟨rfl, rfl⟩

theorem scale_any (h : w.heap[R]? = some (rdObj (wd : Int) ht d ct pv tv bufv pxv env sc)) (h0 : 0 ≤ sc) (h1 : sc ≤ 257) : Calls Tryd.prog 15 #[.pointer (some ⟨R, 0, none⟩)] w fun e w' => e = .returned (.int .i64 sc) ∧ w = w' := by
  obtain ⟨_, _, _, _, _, _, _, _, _, c⟩ := rd_at h
  clear h
  have e1 : wrap64 sc = sc := by unfold wrap64; omega
  go_enter Tryd.func15, Tryd.ntmps15
  go_wp2
  go_ret
  exact ⟨rfl, rfl⟩

theorem entlen_any {a : Option Addr} {m c : Nat} (h : w.heap[R]? = some (rdObj (wd : Int) ht d ct pv tv bufv pxv (.slice a m c) sc)) : Calls Tryd.prog 16 #[.pointer (some ⟨R, 0, none⟩)] w fun e w' => e = .returned (.int .i64 (m : Int)) ∧ w = w' := by
  obtain ⟨_, _, _, _, _, _, _, _, c, _⟩ := rd_at h
  clear h
  go_enter Tryd.func16, Tryd.ntmps16
  go_wp2
  go_ret
  exact ⟨rfl, rfl⟩

theorem ent_any {eb m : Nat} (h : w.heap[R]? = some (rdObj (wd : Int) ht d ct pv tv bufv pxv (.slice (some ⟨eb, 0, none⟩) m m) sc)) (hm : m ≤ 65536) (i : Nat) (hi : i < m) (y : Int) (hc : w.cell? ⟨eb, i, none⟩ = some (.int .u64 y)) :
    Calls Tryd.prog 18 #[.pointer (some ⟨R, 0, none⟩), .int .i64 (i : Int)] w fun e w' => e = .returned (.int .u64 y) ∧ w = w' := by
  obtain ⟨_, _, _, _, _, _, _, _, c, _⟩ := rd_at h
  clear h
  go_enter Tryd.func18, Tryd.ntmps18
  go_wp2
  go_ret
  exact ⟨rfl, rfl⟩

theorem layout_any (h : w.heap[R]? = some (rdObj (wd : Int) ht d ct pv tv bufv pxv env sc)) : Calls Tryd.prog 19 #[.pointer (some ⟨R, 0, none⟩)] w fun e w' => e = .returned (.tuple #[.int .i64 (wd : Int), .int .i64 ht, .int .i64 d, .int .u8 ct]) ∧ ∃ n, w' = w.drewN n := by
  obtain ⟨c0, c1, c2, c3, _, _, _, _, _, _⟩ := rd_at h
  clear h
  go_enter Tryd.func19, Tryd.ntmps19
  go_wp2
  go_quiet (fail)
  go_wp2
  exact bodyPost_ret (v := .tuple #[.int .i64 (wd : Int), .int .i64 ht, .int .i64 d, .int .u8 ct]) (by simp [results, Tryd.results19, go_sem]) rfl ⟨rfl, _, rfl⟩

theorem tables_any (h : w.heap[R]? = some (rdObj (wd : Int) ht d ct pv tv bufv pxv env sc)) : Calls Tryd.prog 20 #[.pointer (some ⟨R, 0, none⟩)] w fun e w' => e = .returned (.tuple #[pv, tv]) ∧ ∃ n, w' = w.drewN n := by
  obtain ⟨_, _, _, _, c5, c6, _, _, _, _⟩ := rd_at h
  clear h
  go_enter Tryd.func20, Tryd.ntmps20
  go_wp2
  go_quiet (fail)
  go_wp2
  go_ret2
  exact ⟨rfl, _, rfl⟩

end
end Go.Proofs.Qxb6612991aDoorRR
