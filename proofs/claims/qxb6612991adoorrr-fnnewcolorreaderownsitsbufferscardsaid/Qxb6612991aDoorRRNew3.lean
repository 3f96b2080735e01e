/-
  Seat Qxb6612991aDoorRR: ZZnewColorReader; the row's length.
-/
import Derived.Test.Qxb6612991aDoorRRNew2
namespace Go.Proofs.Qxb6612991aDoorRR
open Go.RowKit
set_option linter.unusedVariables false
set_option linter.unusedSimpArgs false

/-- The bytes of a row. -/
def rowLen (wd : Nat) (d ch : Int) : Nat := (((wd : Int) * (ch * d) + 7) / 8).toNat

/-- What of the numbers the walks need. -/
structure Nums (wd : Nat) (d ch : Int) (n : Nat) (A B : Int) : Prop where
  row : wrap64 ((wrap64 (wrap64 ((wd : Int) * wrap64 (ch * d)) + 7)).tdiv 8) = (n : Int)
  cap : n ≤ 16777216
  a : wrap64 ((wd : Int) * ch) = A
  b : wrap64 (A * d) = B
  lo : B ≤ (n : Int) * 8
  hi : 0 < n → ((n : Int) - 1) * 8 < B
  bd : 0 ≤ B ∧ B ≤ 1000000000
  dpos : 0 < d

theorem wrap64_small (x : Int) (h0 : 0 ≤ x) (h1 : x ≤ 1000000000) : wrap64 x = x := by
  unfold wrap64
  omega

theorem nums_1_1 (wd : Nat) (h : wd ≤ 65536) : Nums wd 1 1 (rowLen wd 1 1) ((wd : Int) * 1) ((wd : Int) * 1 * 1) := by
  have e0 : wrap64 (1 * 1) = 1 := by unfold wrap64; omega
  have e1 : wrap64 ((wd : Int) * 1) = (wd : Int) * 1 := by unfold wrap64; omega
  have e2 : wrap64 ((wd : Int) * 1 + 7) = (wd : Int) * 1 + 7 := by unfold wrap64; omega
  have e3 : ((wd : Int) * 1 + 7).tdiv 8 = ((wd : Int) * 1 + 7) / 8 := Int.tdiv_eq_ediv_of_nonneg (by omega)
  refine ⟨?_, ?_, ?_, ?_, ?_, ?_, ?_, by omega⟩
  · rw [e0, e1, e2, e3, wrap64_small _ (by omega) (by omega)]
    unfold rowLen
    omega
  · unfold rowLen
    omega
  · unfold wrap64
    omega
  · unfold wrap64
    omega
  · unfold rowLen
    omega
  · unfold rowLen
    omega
  · omega

theorem nums_1_2 (wd : Nat) (h : wd ≤ 65536) : Nums wd 2 1 (rowLen wd 2 1) ((wd : Int) * 1) ((wd : Int) * 1 * 2) := by
  have e0 : wrap64 (1 * 2) = 2 := by unfold wrap64; omega
  have e1 : wrap64 ((wd : Int) * 2) = (wd : Int) * 2 := by unfold wrap64; omega
  have e2 : wrap64 ((wd : Int) * 2 + 7) = (wd : Int) * 2 + 7 := by unfold wrap64; omega
  have e3 : ((wd : Int) * 2 + 7).tdiv 8 = ((wd : Int) * 2 + 7) / 8 := Int.tdiv_eq_ediv_of_nonneg (by omega)
  refine ⟨?_, ?_, ?_, ?_, ?_, ?_, ?_, by omega⟩
  · rw [e0, e1, e2, e3, wrap64_small _ (by omega) (by omega)]
    unfold rowLen
    omega
  · unfold rowLen
    omega
  · unfold wrap64
    omega
  · unfold wrap64
    omega
  · unfold rowLen
    omega
  · unfold rowLen
    omega
  · omega

theorem nums_1_4 (wd : Nat) (h : wd ≤ 65536) : Nums wd 4 1 (rowLen wd 4 1) ((wd : Int) * 1) ((wd : Int) * 1 * 4) := by
  have e0 : wrap64 (1 * 4) = 4 := by unfold wrap64; omega
  have e1 : wrap64 ((wd : Int) * 4) = (wd : Int) * 4 := by unfold wrap64; omega
  have e2 : wrap64 ((wd : Int) * 4 + 7) = (wd : Int) * 4 + 7 := by unfold wrap64; omega
  have e3 : ((wd : Int) * 4 + 7).tdiv 8 = ((wd : Int) * 4 + 7) / 8 := Int.tdiv_eq_ediv_of_nonneg (by omega)
  refine ⟨?_, ?_, ?_, ?_, ?_, ?_, ?_, by omega⟩
  · rw [e0, e1, e2, e3, wrap64_small _ (by omega) (by omega)]
    unfold rowLen
    omega
  · unfold rowLen
    omega
  · unfold wrap64
    omega
  · unfold wrap64
    omega
  · unfold rowLen
    omega
  · unfold rowLen
    omega
  · omega

theorem nums_1_8 (wd : Nat) (h : wd ≤ 65536) : Nums wd 8 1 (rowLen wd 8 1) ((wd : Int) * 1) ((wd : Int) * 1 * 8) := by
  have e0 : wrap64 (1 * 8) = 8 := by unfold wrap64; omega
  have e1 : wrap64 ((wd : Int) * 8) = (wd : Int) * 8 := by unfold wrap64; omega
  have e2 : wrap64 ((wd : Int) * 8 + 7) = (wd : Int) * 8 + 7 := by unfold wrap64; omega
  have e3 : ((wd : Int) * 8 + 7).tdiv 8 = ((wd : Int) * 8 + 7) / 8 := Int.tdiv_eq_ediv_of_nonneg (by omega)
  refine ⟨?_, ?_, ?_, ?_, ?_, ?_, ?_, by omega⟩
  · rw [e0, e1, e2, e3, wrap64_small _ (by omega) (by omega)]
    unfold rowLen
    omega
  · unfold rowLen
    omega
  · unfold wrap64
    omega
  · unfold wrap64
    omega
  · unfold rowLen
    omega
  · unfold rowLen
    omega
  · omega

theorem nums_1_16 (wd : Nat) (h : wd ≤ 65536) : Nums wd 16 1 (rowLen wd 16 1) ((wd : Int) * 1) ((wd : Int) * 1 * 16) := by
  have e0 : wrap64 (1 * 16) = 16 := by unfold wrap64; omega
  have e1 : wrap64 ((wd : Int) * 16) = (wd : Int) * 16 := by unfold wrap64; omega
  have e2 : wrap64 ((wd : Int) * 16 + 7) = (wd : Int) * 16 + 7 := by unfold wrap64; omega
  have e3 : ((wd : Int) * 16 + 7).tdiv 8 = ((wd : Int) * 16 + 7) / 8 := Int.tdiv_eq_ediv_of_nonneg (by omega)
  refine ⟨?_, ?_, ?_, ?_, ?_, ?_, ?_, by omega⟩
  · rw [e0, e1, e2, e3, wrap64_small _ (by omega) (by omega)]
    unfold rowLen
    omega
  · unfold rowLen
    omega
  · unfold wrap64
    omega
  · unfold wrap64
    omega
  · unfold rowLen
    omega
  · unfold rowLen
    omega
  · omega

theorem nums_3_8 (wd : Nat) (h : wd ≤ 65536) : Nums wd 8 3 (rowLen wd 8 3) ((wd : Int) * 3) ((wd : Int) * 3 * 8) := by
  have e0 : wrap64 (3 * 8) = 24 := by unfold wrap64; omega
  have e1 : wrap64 ((wd : Int) * 24) = (wd : Int) * 24 := by unfold wrap64; omega
  have e2 : wrap64 ((wd : Int) * 24 + 7) = (wd : Int) * 24 + 7 := by unfold wrap64; omega
  have e3 : ((wd : Int) * 24 + 7).tdiv 8 = ((wd : Int) * 24 + 7) / 8 := Int.tdiv_eq_ediv_of_nonneg (by omega)
  refine ⟨?_, ?_, ?_, ?_, ?_, ?_, ?_, by omega⟩
  · rw [e0, e1, e2, e3, wrap64_small _ (by omega) (by omega)]
    unfold rowLen
    omega
  · unfold rowLen
    omega
  · unfold wrap64
    omega
  · unfold wrap64
    omega
  · unfold rowLen
    omega
  · unfold rowLen
    omega
  · omega

theorem nums_3_16 (wd : Nat) (h : wd ≤ 65536) : Nums wd 16 3 (rowLen wd 16 3) ((wd : Int) * 3) ((wd : Int) * 3 * 16) := by
  have e0 : wrap64 (3 * 16) = 48 := by unfold wrap64; omega
  have e1 : wrap64 ((wd : Int) * 48) = (wd : Int) * 48 := by unfold wrap64; omega
  have e2 : wrap64 ((wd : Int) * 48 + 7) = (wd : Int) * 48 + 7 := by unfold wrap64; omega
  have e3 : ((wd : Int) * 48 + 7).tdiv 8 = ((wd : Int) * 48 + 7) / 8 := Int.tdiv_eq_ediv_of_nonneg (by omega)
  refine ⟨?_, ?_, ?_, ?_, ?_, ?_, ?_, by omega⟩
  · rw [e0, e1, e2, e3, wrap64_small _ (by omega) (by omega)]
    unfold rowLen
    omega
  · unfold rowLen
    omega
  · unfold wrap64
    omega
  · unfold wrap64
    omega
  · unfold rowLen
    omega
  · unfold rowLen
    omega
  · omega

theorem nums_2_8 (wd : Nat) (h : wd ≤ 65536) : Nums wd 8 2 (rowLen wd 8 2) ((wd : Int) * 2) ((wd : Int) * 2 * 8) := by
  have e0 : wrap64 (2 * 8) = 16 := by unfold wrap64; omega
  have e1 : wrap64 ((wd : Int) * 16) = (wd : Int) * 16 := by unfold wrap64; omega
  have e2 : wrap64 ((wd : Int) * 16 + 7) = (wd : Int) * 16 + 7 := by unfold wrap64; omega
  have e3 : ((wd : Int) * 16 + 7).tdiv 8 = ((wd : Int) * 16 + 7) / 8 := Int.tdiv_eq_ediv_of_nonneg (by omega)
  refine ⟨?_, ?_, ?_, ?_, ?_, ?_, ?_, by omega⟩
  · rw [e0, e1, e2, e3, wrap64_small _ (by omega) (by omega)]
    unfold rowLen
    omega
  · unfold rowLen
    omega
  · unfold wrap64
    omega
  · unfold wrap64
    omega
  · unfold rowLen
    omega
  · unfold rowLen
    omega
  · omega

theorem nums_2_16 (wd : Nat) (h : wd ≤ 65536) : Nums wd 16 2 (rowLen wd 16 2) ((wd : Int) * 2) ((wd : Int) * 2 * 16) := by
  have e0 : wrap64 (2 * 16) = 32 := by unfold wrap64; omega
  have e1 : wrap64 ((wd : Int) * 32) = (wd : Int) * 32 := by unfold wrap64; omega
  have e2 : wrap64 ((wd : Int) * 32 + 7) = (wd : Int) * 32 + 7 := by unfold wrap64; omega
  have e3 : ((wd : Int) * 32 + 7).tdiv 8 = ((wd : Int) * 32 + 7) / 8 := Int.tdiv_eq_ediv_of_nonneg (by omega)
  refine ⟨?_, ?_, ?_, ?_, ?_, ?_, ?_, by omega⟩
  · rw [e0, e1, e2, e3, wrap64_small _ (by omega) (by omega)]
    unfold rowLen
    omega
  · unfold rowLen
    omega
  · unfold wrap64
    omega
  · unfold wrap64
    omega
  · unfold rowLen
    omega
  · unfold rowLen
    omega
  · omega

theorem nums_4_8 (wd : Nat) (h : wd ≤ 65536) : Nums wd 8 4 (rowLen wd 8 4) ((wd : Int) * 4) ((wd : Int) * 4 * 8) := by
  have e0 : wrap64 (4 * 8) = 32 := by unfold wrap64; omega
  have e1 : wrap64 ((wd : Int) * 32) = (wd : Int) * 32 := by unfold wrap64; omega
  have e2 : wrap64 ((wd : Int) * 32 + 7) = (wd : Int) * 32 + 7 := by unfold wrap64; omega
  have e3 : ((wd : Int) * 32 + 7).tdiv 8 = ((wd : Int) * 32 + 7) / 8 := Int.tdiv_eq_ediv_of_nonneg (by omega)
  refine ⟨?_, ?_, ?_, ?_, ?_, ?_, ?_, by omega⟩
  · rw [e0, e1, e2, e3, wrap64_small _ (by omega) (by omega)]
    unfold rowLen
    omega
  · unfold rowLen
    omega
  · unfold wrap64
    omega
  · unfold wrap64
    omega
  · unfold rowLen
    omega
  · unfold rowLen
    omega
  · omega

theorem nums_4_16 (wd : Nat) (h : wd ≤ 65536) : Nums wd 16 4 (rowLen wd 16 4) ((wd : Int) * 4) ((wd : Int) * 4 * 16) := by
  have e0 : wrap64 (4 * 16) = 64 := by unfold wrap64; omega
  have e1 : wrap64 ((wd : Int) * 64) = (wd : Int) * 64 := by unfold wrap64; omega
  have e2 : wrap64 ((wd : Int) * 64 + 7) = (wd : Int) * 64 + 7 := by unfold wrap64; omega
  have e3 : ((wd : Int) * 64 + 7).tdiv 8 = ((wd : Int) * 64 + 7) / 8 := Int.tdiv_eq_ediv_of_nonneg (by omega)
  refine ⟨?_, ?_, ?_, ?_, ?_, ?_, ?_, by omega⟩
  · rw [e0, e1, e2, e3, wrap64_small _ (by omega) (by omega)]
    unfold rowLen
    omega
  · unfold rowLen
    omega
  · unfold wrap64
    omega
  · unfold wrap64
    omega
  · unfold rowLen
    omega
  · unfold rowLen
    omega
  · omega

theorem nums_of {ct d ch : Int} (V : Valid ct d ch) (wd : Nat) (h : wd ≤ 65536) : Nums wd d ch (rowLen wd d ch) ((wd : Int) * ch) ((wd : Int) * ch * d) := by
  unfold Valid at V
  rcases V with ⟨_, rfl, hd⟩ | ⟨_, rfl, hd⟩ | ⟨_, rfl, hd⟩ | ⟨_, rfl, hd⟩ | ⟨_, rfl, hd⟩
  · rcases hd with rfl | rfl | rfl | rfl | rfl
    · exact nums_1_1 wd h
    · exact nums_1_2 wd h
    · exact nums_1_4 wd h
    · exact nums_1_8 wd h
    · exact nums_1_16 wd h
  · rcases hd with rfl | rfl
    · exact nums_3_8 wd h
    · exact nums_3_16 wd h
  · rcases hd with rfl | rfl | rfl | rfl
    · exact nums_1_1 wd h
    · exact nums_1_2 wd h
    · exact nums_1_4 wd h
    · exact nums_1_8 wd h
  · rcases hd with rfl | rfl
    · exact nums_2_8 wd h
    · exact nums_2_16 wd h
  · rcases hd with rfl | rfl
    · exact nums_4_8 wd h
    · exact nums_4_16 wd h

set_option maxHeartbeats 800000 in
theorem zznew_any {W w : World} {ct ch : Int} (C : ChIs W ct ch) (hb : Below W.heap.size W w) (wd : Nat) (ht d : Int) (pa ta : Option Addr) (bs ts : List Int) (hP : BytesAt w pa bs) (hT : BytesAt w ta ts) (hbl : bs.length ≤ 4096) (htl : ts.length ≤ 4096) (n : Nat) (hwd : wd ≤ 65536)
    (hrow : wrap64 ((wrap64 (wrap64 ((wd : Int) * wrap64 (ch * d)) + 7)).tdiv 8) = (n : Int)) (hn : n ≤ 16777216) :
    Calls Tryd.prog 8 #[.int .i64 (wd : Int), .int .i64 ht, .int .i64 d, .int .u8 ct, .slice pa bs.length bs.length, .slice ta ts.length ts.length] w fun e w' => ∃ R, e = .returned (.pointer (some ⟨R, 0, none⟩)) ∧ Reader w w' R wd ht d ct pa ta bs ts n := by
  have H := Hid.mk (new_any C hb wd ht d pa ta bs ts hP hT hbl htl n hwd hrow hn)
  clear C hb hP hT hrow
  go_enter Tryd.func8, Tryd.ntmps8
  go_wp2_with fail
  refine H.out.mono ?_
  rintro e w' ⟨R, rfl, hR⟩
  have HR := Hid.mk hR
  clear hR
  go_wp2
  go_ret
  exact ⟨R, rfl, HR.out⟩

end Go.Proofs.Qxb6612991aDoorRR
