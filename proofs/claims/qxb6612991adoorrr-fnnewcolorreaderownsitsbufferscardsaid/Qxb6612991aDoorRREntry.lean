/-
  Seat Qxb6612991aDoorRR: paletteEntry: its contract.
-/
import Derived.Test.Qxb6612991aDoorRRSmall
import Derived.RegionTactic
import Derived.BigRegion
namespace Go.Proofs.Qxb6612991aDoorRR
open Go.RowKit
set_option linter.unusedVariables false
set_option linter.unusedSimpArgs false

theorem past2 {w : World} {b o : Nat} {v : Value} (h : w.cell? ⟨b, o, none⟩ = some v) (o1 o2 : Obj) : ((w.alloc o1).alloc o2).cell? ⟨b, o, none⟩ = some v := by
  have hb := World.block_lt_of_cell? _ _ h
  rw [World.cell?_of_block (Below.heap_alloc _ _ _ (by simp; exact Nat.lt_succ_of_lt hb)), World.cell?_of_block (Below.heap_alloc _ _ _ hb)]
  exact h
theorem past3 {w : World} {b o : Nat} {v : Value} (h : w.cell? ⟨b, o, none⟩ = some v) (o1 o2 o3 : Obj) : (((w.alloc o1).alloc o2).alloc o3).cell? ⟨b, o, none⟩ = some v := by
  have hb := World.block_lt_of_cell? _ _ h
  have h2 := past2 h o1 o2
  rw [World.cell?_of_block (Below.heap_alloc _ _ _ (World.block_lt_of_cell? _ _ h2))]
  exact h2

set_option maxRecDepth 100000 in
set_option maxHeartbeats 1600000 in
theorem entry_long (w : World) (wd ht d ct : Int) (g n : Nat) (i : Nat) (r0 r1 r2 : Int) (hn : n ≤ 4096) (hi : 3 * i + 2 < n) (c0 : w.cell? ⟨g, 3 * i, none⟩ = some (.int .u8 r0)) (c1 : w.cell? ⟨g, 3 * i + 1, none⟩ = some (.int .u8 r1)) (c2 : w.cell? ⟨g, 3 * i + 2, none⟩ = some (.int .u8 r2))
    (tb tl tc : Nat) (htl : tl ≤ 4096) (hit : i < tl) (a : Int) (ca : w.cell? ⟨tb, i, none⟩ = some (.int .u8 a)) :
    Calls Tryd.prog 23 #[.agg #[.int .i64 wd, .int .i64 ht, .int .i64 d, .int .u8 ct, .int .u8 0, .slice (some ⟨g, 0, none⟩) n n, .slice (some ⟨tb, 0, none⟩) tl tc, .nilFunc, .pointer none], .int .i64 (i : Int)] w fun e w' => e = .returned (.agg #[.int .u8 r0, .int .u8 r1, .int .u8 r2, .int .u8 a]) ∧ ∃ o1 o2 o3, w' = (((w.alloc o1).alloc o2).alloc o3).drew := by
  have hg := World.block_lt_of_cell? _ _ c0
  go_enter Tryd.func23, Tryd.ntmps23
  go_wp2
  have hn0 : (0 : Int) < ((n - 3 * i : Nat) : Int) := by omega
  have hn1 : (1 : Int) < ((n - 3 * i : Nat) : Int) := by omega
  have hn2 : (2 : Int) < ((n - 3 * i : Nat) : Int) := by omega
  have p0 := past2 c0
  have p1 := past2 c1
  have p2 := past2 c2
  have pa := past2 ca
  have q0 := past3 c0
  have q1 := past3 c1
  have q2 := past3 c2
  have qa := past3 ca
  go_region
  go_wp2
  exact bodyPost_ret (v := .agg #[.int .u8 r0, .int .u8 r1, .int .u8 r2, .int .u8 a]) (by simp [results, Tryd.results23, go_sem]) rfl ⟨rfl, _, _, _, rfl⟩

set_option maxRecDepth 100000 in
set_option maxHeartbeats 1600000 in
theorem entry_short (w : World) (wd ht d ct : Int) (g n : Nat) (i : Nat) (r0 r1 r2 : Int) (hn : n ≤ 4096) (hi : 3 * i + 2 < n) (c0 : w.cell? ⟨g, 3 * i, none⟩ = some (.int .u8 r0)) (c1 : w.cell? ⟨g, 3 * i + 1, none⟩ = some (.int .u8 r1)) (c2 : w.cell? ⟨g, 3 * i + 2, none⟩ = some (.int .u8 r2))
    (ta : Option Addr) (tl tc : Nat) (hit : tl ≤ i) :
    Calls Tryd.prog 23 #[.agg #[.int .i64 wd, .int .i64 ht, .int .i64 d, .int .u8 ct, .int .u8 0, .slice (some ⟨g, 0, none⟩) n n, .slice ta tl tc, .nilFunc, .pointer none], .int .i64 (i : Int)] w fun e w' => e = .returned (.agg #[.int .u8 r0, .int .u8 r1, .int .u8 r2, .int .u8 255]) ∧ ∃ o1 o2 o3, w' = (((w.alloc o1).alloc o2).alloc o3).drew := by
  have hg := World.block_lt_of_cell? _ _ c0
  go_enter Tryd.func23, Tryd.ntmps23
  go_wp2
  have hn0 : (0 : Int) < ((n - 3 * i : Nat) : Int) := by omega
  have hn1 : (1 : Int) < ((n - 3 * i : Nat) : Int) := by omega
  have hn2 : (2 : Int) < ((n - 3 * i : Nat) : Int) := by omega
  have p0 := past2 c0
  have p1 := past2 c1
  have p2 := past2 c2
  have q0 := past3 c0
  have q1 := past3 c1
  have q2 := past3 c2
  go_region
  go_wp2
  exact bodyPost_ret (v := .agg #[.int .u8 r0, .int .u8 r1, .int .u8 r2, .int .u8 255]) (by simp [results, Tryd.results23, go_sem]) rfl ⟨rfl, _, _, _, rfl⟩

end Go.Proofs.Qxb6612991aDoorRR
