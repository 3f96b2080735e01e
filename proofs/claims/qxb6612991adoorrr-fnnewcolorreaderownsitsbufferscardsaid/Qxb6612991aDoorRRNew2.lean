/-
  Seat Qxb6612991aDoorRR: newColorReader: its contract.
-/
import Derived.Test.Qxb6612991aDoorRRNew1

namespace Go.Proofs.Qxb6612991aDoorRR
open Go.RowKit
set_option linter.unusedVariables false
set_option linter.unusedSimpArgs false

/-- A reader, made; no palette type. -/
def scaleOf (d : Int) : Int := if d = 8 then 257 else 1

/-- The entries of a reader of colour type ct. -/
def Ents (w w' : World) (ct : Int) (bs ts : List Int) (pb : Nat) (env : Value) (k : Nat) : Prop :=
  (ct ≠ 3 ∧ env = .slice none 0 0) ∨ (ct = 3 ∧ ∃ eb, env = .slice (some ⟨eb, 0, none⟩) (bs.length / 3) (bs.length / 3) ∧ w'.heap[eb]? = some (.cells (u64a (entRow bs ts (bs.length / 3) k)) 56) ∧ w.heap.size ≤ eb ∧ eb ≠ pb)

def Reader (w w' : World) (R : Nat) (wd : Nat) (ht d ct : Int) (pa ta : Option Addr) (bs ts : List Int) (n : Nat) : Prop :=
  ∃ L bb pb env, Made w w' L R bb pb wd ht d ct (.slice pa bs.length bs.length) (.slice ta ts.length ts.length) n env (scaleOf d) ∧ Ents w w' ct bs ts pb env (bs.length / 3)

theorem four3 (w : World) (A B C D : Obj) : ((((w.alloc A).alloc B).alloc C).alloc D).heap[w.heap.size + 1 + 1 + 1]? = some D := by
  rw [← size_new w A, ← size_new _ B, ← size_new _ C, heap_new]
theorem fourB (w : World) (A B C D : Obj) : Below w.heap.size w ((((w.alloc A).alloc B).alloc C).alloc D) :=
  ((((Below.refl _ _).alloc (Nat.le_refl _) A).alloc (by simp only [size_new]; omega) B).alloc (by simp only [size_new]; omega) C).alloc (by simp only [size_new]; omega) D

theorem Made.drew {w w' : World} {L R bb pb wd : Nat} {ht d ct : Int} {pv tv : Value} {n : Nat} {env : Value} {sc : Int} (M : Made w w' L R bb pb wd ht d ct pv tv n env sc) : Made w w'.drew L R bb pb wd ht d ct pv tv n env sc :=
  ⟨M.lay, M.rd, M.buf, M.px, M.gL, M.gR, M.gb, M.gp, M.below.drew⟩

theorem run_ents (m : Nat) (h : m ≤ 4096) (w : World) : (Instr.makeSlice 48 (.int .i64 ((m : Int) / 3)) (.int .i64 ((m : Int) / 3))).run Tryd.prog w = .ok (.slice (some ⟨w.heap.size, 0, none⟩) (m / 3) (m / 3)) (w.alloc (.cells (u64a (List.replicate (m / 3) 0)) 56)) := by
  have e : (m : Int) / 3 = ((m / 3 : Nat) : Int) := by omega
  rw [e]
  exact run_make48 (m / 3) (by omega) w

set_option maxRecDepth 100000 in
set_option maxHeartbeats 6400000 in
theorem new_any {W w : World} {ct ch : Int} (C : ChIs W ct ch) (hb : Below W.heap.size W w) (wd : Nat) (ht d : Int) (pa ta : Option Addr) (bs ts : List Int) (hP : BytesAt w pa bs) (hT : BytesAt w ta ts) (hbl : bs.length ≤ 4096) (htl : ts.length ≤ 4096) (n : Nat) (hwd : wd ≤ 65536)
    (hrow : wrap64 ((wrap64 (wrap64 ((wd : Int) * wrap64 (ch * d)) + 7)).tdiv 8) = (n : Int)) (hn : n ≤ 16777216) :
    Calls Tryd.prog 12 #[.agg #[.int .i64 (wd : Int), .int .i64 ht, .int .i64 d, .int .u8 ct, .int .u8 0, .slice pa bs.length bs.length, .slice ta ts.length ts.length, .nilFunc, .pointer none]] w fun e w' => ∃ R, e = .returned (.pointer (some ⟨R, 0, none⟩)) ∧ Reader w w' R wd ht d ct pa ta bs ts n := by
  have HP := Hid.mk hP
  have HT := Hid.mk hT
  clear hP hT
  have HMK := Hid.mk (run_make22 n hn)
  have HMP := Hid.mk (run_make48 wd (by omega))
  have HC := Hid.mk C
  have HB := Hid.mk hb
  have HR := Hid.mk hrow
  clear C hb hrow
  have HL : Hid (LayS w.heap.size (wd : Int) ht d ct (.slice pa bs.length bs.length) (.slice ta ts.length ts.length) (w.alloc (layObj (wd : Int) ht d ct (.slice pa bs.length bs.length) (.slice ta ts.length ts.length)))) := LayS.of (MapKept.heap_alloc w _).1
  go_enter Tryd.func12, Tryd.ntmps12
  go_wp2_with fail
  go_cut [3] (fun v w' => ∃ R bb pb : Nat, v = .pointer (some ⟨R, 0, none⟩) ∧ Hid (Made w w' w.heap.size R bb pb wd ht d ct (.slice pa bs.length bs.length) (.slice ta ts.length ts.length) n (.slice none 0 0) 1))
  case first =>
    have hmk := HMK.out
    have hmp := HMP.out
    have hL := HL.out
    go_region_held3 (LayS w.heap.size (wd : Int) ht d ct (.slice pa bs.length bs.length) (.slice ta ts.length ts.length)) (repeat (first | assumption | exact hL | apply LayS.drew | apply LayS.drewN | apply LayS.alloc))
      (first
        | (go_at_call 22; refine (row_any HC.out ?_ _ _ _ _).mono ?_; (first | exact (HB.out.alloc HB.out.size _).drew | exact ((HB.out.alloc HB.out.size _).alloc (by have := HB.out.size; simp; omega) _).drew); rw [HR.out]; rintro e w' ⟨rfl, o1, o2, k, rfl⟩))
    all_goals
      go_wp2_with fail
      go_meet
      case rel =>
        first
          | exact ⟨_, w.heap.size + 1 + 1 + 1, w.heap.size + 1 + 1 + 1 + 1, rfl, ⟨six0 _ _ _ _ _ _ _, six5 _ _ _ _ _ _ _, six3 _ _ _ _ _ _ _, six4 _ _ _ _ _ _ _, Nat.le_refl _, by omega, by omega, by omega, below_drewN (sixB _ _ _ _ _ _ _) _⟩⟩
          | exact ⟨_, w.heap.size + 1 + 1 + 1 + 1, w.heap.size + 1 + 1 + 1, rfl, ⟨six0 _ _ _ _ _ _ _, six5 _ _ _ _ _ _ _, six4 _ _ _ _ _ _ _, six3 _ _ _ _ _ _ _, Nat.le_refl _, by omega, by omega, by omega, below_drewN (sixB _ _ _ _ _ _ _) _⟩⟩
          | exact ⟨_, w.heap.size + 1 + 1 + 1 + 1, w.heap.size + 1, rfl, ⟨six0 _ _ _ _ _ _ _, six5 _ _ _ _ _ _ _, six4 _ _ _ _ _ _ _, six1 _ _ _ _ _ _ _, Nat.le_refl _, by omega, by omega, by omega, below_drewN (sixB _ _ _ _ _ _ _) _⟩⟩
  case rest =>
    obtain ⟨R, bb, pb, rfl, HM⟩ := hcut
    clear HMK HMP HR HC HL
    have hLR : ¬ w.heap.size = R := fun e => HM.out.apart.1 e.symm
    have hRL : ¬ R = w.heap.size := fun e => hLR e.symm
    have lay := LayS.of HM.out.lay
    have d12 := HM.out.c12
    have d11 := HM.out.c11
    have df := HM.out.fz
    by_cases h8 : d = 8
    · have b8 : (d == 8) = true := beq_iff_eq.2 h8
      have hM : Made w (wc.setCell ⟨R, 12, none⟩ (.int .u16 257)) w.heap.size R bb pb wd ht d ct (.slice pa bs.length bs.length) (.slice ta ts.length ts.length) n (.slice none 0 0) (scaleOf d) := by
        have e : scaleOf d = 257 := by simp [scaleOf, h8]
        rw [e]
        exact HM.out.setScale 257
      have HM1 := Hid.mk hM
      clear hM h8
      go_upto_region 4 with fail
      generalize wc.setCell ⟨R, 12, none⟩ (.int .u16 257) = w1 at HM1 ⊢
      clear HM lay d12 d11 df
      have lay := LayS.of HM1.out.lay
      have d11 := HM1.out.c11
      have df := HM1.out.fz
      by_cases h3 : ct = 3
      · have b3 : (ct == 3) = true := beq_iff_eq.2 h3
        have H3 := Hid.mk h3
        clear h3
        have hme := run_ents bs.length hbl
        have a11 : ∀ o, (w1.alloc o).cell? ⟨R, 11, none⟩ = some (.slice none 0 0) := fun o => by
          rw [World.cell?_of_block (Below.heap_alloc _ _ _ (World.block_lt_of_cell? _ _ d11))]
          exact d11
        have af : ∀ o, (w1.alloc o).frozen? ⟨R, 11, none⟩ = false := fun o => by
          rw [World.frozen?_of_block (Below.heap_alloc _ _ _ (World.block_lt_of_cell? _ _ d11))]
          exact df 11
        go_wp2_with fail
        have H0 : Hid (Made w ((w1.alloc (.cells (u64a (List.replicate (bs.length / 3) 0)) 56)).setCell ⟨R, 11, none⟩ (.slice (some ⟨w1.heap.size, 0, none⟩) (bs.length / 3) (bs.length / 3))) w.heap.size R bb pb wd ht d ct (.slice pa bs.length bs.length) (.slice ta ts.length ts.length) n (.slice (some ⟨w1.heap.size, 0, none⟩) (bs.length / 3) (bs.length / 3)) (scaleOf d) ∧ ((w1.alloc (.cells (u64a (List.replicate (bs.length / 3) 0)) 56)).setCell ⟨R, 11, none⟩ (.slice (some ⟨w1.heap.size, 0, none⟩) (bs.length / 3) (bs.length / 3))).heap[w1.heap.size]? = some (.cells (u64a (entRow bs ts (bs.length / 3) 0)) 56)) := by
          refine ⟨(HM1.out.kept ((Below.refl _ _).alloc (Nat.le_refl _) _)).setEntries _, ?_⟩
          rw [Below.heap_setCell _ _ _ _ (by have := World.block_lt_of_cell? _ _ d11; simp at this ⊢; omega), entRow_zero]
          exact heap_new _ _
        have hs1 := HM1.out.below.size
        have hpbl : pb < w1.heap.size := (Array.getElem?_eq_some_iff.1 HM1.out.px).1
        clear HM1 lay d11 df a11 af hme
        generalize (w1.alloc (.cells (u64a (List.replicate (bs.length / 3) 0)) 56)).setCell ⟨R, 11, none⟩ (.slice (some ⟨w1.heap.size, 0, none⟩) (bs.length / 3) (bs.length / 3)) = W2 at H0 ⊢
        generalize w1.heap.size = eb at H0 hs1 hpbl ⊢
        go_loopw [44] (fun t wr => ∃ k : Nat, k ≤ bs.length / 3 ∧ t = .int .i64 k ∧ Hid (Made w wr w.heap.size R bb pb wd ht d ct (.slice pa bs.length bs.length) (.slice ta ts.length ts.length) n (.slice (some ⟨eb, 0, none⟩) (bs.length / 3) (bs.length / 3)) (scaleOf d) ∧ wr.heap[eb]? = some (.cells (u64a (entRow bs ts (bs.length / 3) k)) 56))) (fun t _ => bs.length / 3 - (intOf t).toNat)
        case atStart => exact ⟨0, Nat.zero_le _, rfl, H0⟩
        case round =>
          clear H0
          obtain ⟨k, hk, rfl, HI⟩ := hrel
          by_cases hlt : k < bs.length / 3
          · have hlt' : (k : Int) < (bs.length : Int) / 3 := by omega
            have lay := LayS.of HI.out.1.lay
            have hbel := HI.out.1.below
            rcases HP.out.kept hbel with ⟨_, e0⟩ | ⟨g, rfl, hg⟩
            · rw [e0] at hlt
              simp at hlt
            have c0 := cell_u8 hg (i := 3 * k) (by omega)
            have c1 := cell_u8 hg (i := 3 * k + 1) (by omega)
            have c2 := cell_u8 hg (i := 3 * k + 2) (by omega)
            obtain ⟨r0, hr0⟩ : ∃ r, r = bs.getD (3 * k) 0 := ⟨_, rfl⟩
            obtain ⟨r1, hr1⟩ : ∃ r, r = bs.getD (3 * k + 1) 0 := ⟨_, rfl⟩
            obtain ⟨r2, hr2⟩ : ∃ r, r = bs.getD (3 * k + 2) 0 := ⟨_, rfl⟩
            rw [← hr0] at c0
            rw [← hr1] at c1
            rw [← hr2] at c2
            by_cases hkt : k < ts.length
            · rcases HT.out.kept hbel with ⟨_, e0⟩ | ⟨tb, rfl, ht'⟩
              · rw [e0] at hkt
                simp at hkt
              have ca := cell_u8 ht' (i := k) hkt
              obtain ⟨al, hal⟩ : ∃ r, r = ts.getD k 0 := ⟨_, rfl⟩
              rw [← hal] at ca
              have HE : Hid (px8 r0 r1 r2 al = ent bs ts k) := by
                unfold ent Hid
                rw [if_pos hkt, hr0, hr1, hr2, hal]
              have HCC := Hid.mk (And.intro c0 (And.intro c1 (And.intro c2 ca)))
              clear hr0 hr1 hr2 hal ht' hg hbel c0 c1 c2 ca
              go_wp2_with (go_at_call 23; refine (entry_long _ _ _ _ _ _ _ k r0 r1 r2 hbl (by omega) HCC.out.1 HCC.out.2.1 HCC.out.2.2.1 _ _ _ htl hkt al HCC.out.2.2.2).mono ?_; rintro e w' ⟨rfl, o1, o2, o3, rfl⟩)
              have hbw : Below wr.heap.size wr ((((wr.alloc o1).alloc o2).alloc o3).alloc (.cells #[.int .u8 r0, .int .u8 r1, .int .u8 r2, .int .u8 al] 54)).drew := (fourB _ _ _ _ _).drew
              have HW : Hid (Made w ((((wr.alloc o1).alloc o2).alloc o3).alloc (.cells #[.int .u8 r0, .int .u8 r1, .int .u8 r2, .int .u8 al] 54)).drew w.heap.size R bb pb wd ht d ct (.slice (some ⟨g, 0, none⟩) bs.length bs.length) (.slice (some ⟨tb, 0, none⟩) ts.length ts.length) n (.slice (some ⟨eb, 0, none⟩) (bs.length / 3) (bs.length / 3)) (scaleOf d) ∧ ((((wr.alloc o1).alloc o2).alloc o3).alloc (.cells #[.int .u8 r0, .int .u8 r1, .int .u8 r2, .int .u8 al] 54)).drew.heap[eb]? = some (.cells (u64a (entRow bs ts (bs.length / 3) k)) 56)) :=
                ⟨HI.out.1.kept hbw, (hbw.block eb (Array.getElem?_eq_some_iff.1 HI.out.2).1).trans HI.out.2⟩
              have hcb : ((((wr.alloc o1).alloc o2).alloc o3).alloc (.cells #[.int .u8 r0, .int .u8 r1, .int .u8 r2, .int .u8 al] 54)).drew.heap[wr.heap.size + 1 + 1 + 1]? = some (.cells #[.int .u8 r0, .int .u8 r1, .int .u8 r2, .int .u8 al] 54) := four3 _ _ _ _ _
              have hebw : eb < wr.heap.size := (Array.getElem?_eq_some_iff.1 HI.out.2).1
              clear hbw HI lay HCC
              generalize ((((wr.alloc o1).alloc o2).alloc o3).alloc (.cells #[.int .u8 r0, .int .u8 r1, .int .u8 r2, .int .u8 al] 54)).drew = W4 at HW hcb ⊢
              have hec : ¬ eb = wr.heap.size + 1 + 1 + 1 := by omega
              clear hebw
              generalize wr.heap.size + 1 + 1 + 1 = cb at hcb hec ⊢
              have k0 : W4.cell? ⟨cb, 0, none⟩ = some (.int .u8 r0) := by simp [World.cell?, hcb]
              have k1 : W4.cell? ⟨cb, 1, none⟩ = some (.int .u8 r1) := by simp [World.cell?, hcb]
              have k2 : W4.cell? ⟨cb, 2, none⟩ = some (.int .u8 r2) := by simp [World.cell?, hcb]
              have k3 : W4.cell? ⟨cb, 3, none⟩ = some (.int .u8 al) := by simp [World.cell?, hcb]
              have k4 := HW.out.1.c11
              obtain ⟨ev, k5⟩ : ∃ v, W4.cell? ⟨eb, k, none⟩ = some v := ⟨_, cell_u64 HW.out.2 (by rw [entRow_length]; exact hlt)⟩
              have k6 : W4.frozen? ⟨eb, k, none⟩ = false := by simp [World.frozen?, HW.out.2]
              have heR : ¬ eb = R := fun e => by
                have h1 := HW.out.1.rd
                rw [← e, HW.out.2] at h1
                simp [rdObj] at h1
              have hce : ¬ cb = eb := fun e => hec e.symm
              have hRe : ¬ R = eb := fun e => heR e.symm
              have hm' : (k : Int) < ((bs.length / 3 : Nat) : Int) := by omega
              clear hcb
              go_region_held3 (fun w' => w'.cell? ⟨cb, 0, none⟩ = some (.int .u8 r0) ∧ w'.cell? ⟨cb, 1, none⟩ = some (.int .u8 r1) ∧ w'.cell? ⟨cb, 2, none⟩ = some (.int .u8 r2) ∧ w'.cell? ⟨cb, 3, none⟩ = some (.int .u8 al) ∧ w'.cell? ⟨R, 11, none⟩ = some (.slice (some ⟨eb, 0, none⟩) (bs.length / 3) (bs.length / 3))) (go_keep)
                (first
                  | (go_at_call 24; refine (pixel8_any _ _ _ _ _).mono ?_; rintro e w' ⟨rfl, rfl⟩))
              rw [HE.out]
              go_wp2_with fail
              have hM5 := HW.out.1.setCell (b := eb) (o := k) (.int .u64 (ent bs ts k)) (fun e => by
                have h1 := HW.out.1.lay
                rw [← e, HW.out.2] at h1
                simp [layObj] at h1) heR (fun e => by
                have h1 := HW.out.1.buf
                rw [← e, HW.out.2] at h1
                simp at h1) (by omega) (by omega)
              have hE5 := heap_set HW.out.2 k (.int .u64 (ent bs ts k))
              rw [entRow_next bs ts (bs.length / 3) k hlt] at hE5
              refine ⟨⟨k + 1, by omega, by go_num, ?_⟩, by simp [intOf]; omega⟩
              exact ⟨hM5.drew, hE5⟩
            · have HE : Hid (px8 r0 r1 r2 255 = ent bs ts k) := by
                unfold ent Hid
                rw [if_neg hkt, hr0, hr1, hr2]
              have HCC := Hid.mk (And.intro c0 (And.intro c1 c2))
              clear hr0 hr1 hr2 hg hbel c0 c1 c2
              go_wp2_with (go_at_call 23; refine (entry_short _ _ _ _ _ _ _ k r0 r1 r2 hbl (by omega) HCC.out.1 HCC.out.2.1 HCC.out.2.2 _ _ _ (by omega)).mono ?_; rintro e w' ⟨rfl, o1, o2, o3, rfl⟩)
              have hbw : Below wr.heap.size wr ((((wr.alloc o1).alloc o2).alloc o3).alloc (.cells #[.int .u8 r0, .int .u8 r1, .int .u8 r2, .int .u8 255] 54)).drew := (fourB _ _ _ _ _).drew
              have HW : Hid (Made w ((((wr.alloc o1).alloc o2).alloc o3).alloc (.cells #[.int .u8 r0, .int .u8 r1, .int .u8 r2, .int .u8 255] 54)).drew w.heap.size R bb pb wd ht d ct (.slice (some ⟨g, 0, none⟩) bs.length bs.length) (.slice ta ts.length ts.length) n (.slice (some ⟨eb, 0, none⟩) (bs.length / 3) (bs.length / 3)) (scaleOf d) ∧ ((((wr.alloc o1).alloc o2).alloc o3).alloc (.cells #[.int .u8 r0, .int .u8 r1, .int .u8 r2, .int .u8 255] 54)).drew.heap[eb]? = some (.cells (u64a (entRow bs ts (bs.length / 3) k)) 56)) :=
                ⟨HI.out.1.kept hbw, (hbw.block eb (Array.getElem?_eq_some_iff.1 HI.out.2).1).trans HI.out.2⟩
              have hcb : ((((wr.alloc o1).alloc o2).alloc o3).alloc (.cells #[.int .u8 r0, .int .u8 r1, .int .u8 r2, .int .u8 255] 54)).drew.heap[wr.heap.size + 1 + 1 + 1]? = some (.cells #[.int .u8 r0, .int .u8 r1, .int .u8 r2, .int .u8 255] 54) := four3 _ _ _ _ _
              have hebw : eb < wr.heap.size := (Array.getElem?_eq_some_iff.1 HI.out.2).1
              clear hbw HI lay HCC
              generalize ((((wr.alloc o1).alloc o2).alloc o3).alloc (.cells #[.int .u8 r0, .int .u8 r1, .int .u8 r2, .int .u8 255] 54)).drew = W4 at HW hcb ⊢
              have hec : ¬ eb = wr.heap.size + 1 + 1 + 1 := by omega
              clear hebw
              generalize wr.heap.size + 1 + 1 + 1 = cb at hcb hec ⊢
              have k0 : W4.cell? ⟨cb, 0, none⟩ = some (.int .u8 r0) := by simp [World.cell?, hcb]
              have k1 : W4.cell? ⟨cb, 1, none⟩ = some (.int .u8 r1) := by simp [World.cell?, hcb]
              have k2 : W4.cell? ⟨cb, 2, none⟩ = some (.int .u8 r2) := by simp [World.cell?, hcb]
              have k3 : W4.cell? ⟨cb, 3, none⟩ = some (.int .u8 255) := by simp [World.cell?, hcb]
              have k4 := HW.out.1.c11
              obtain ⟨ev, k5⟩ : ∃ v, W4.cell? ⟨eb, k, none⟩ = some v := ⟨_, cell_u64 HW.out.2 (by rw [entRow_length]; exact hlt)⟩
              have k6 : W4.frozen? ⟨eb, k, none⟩ = false := by simp [World.frozen?, HW.out.2]
              have heR : ¬ eb = R := fun e => by
                have h1 := HW.out.1.rd
                rw [← e, HW.out.2] at h1
                simp [rdObj] at h1
              have hce : ¬ cb = eb := fun e => hec e.symm
              have hRe : ¬ R = eb := fun e => heR e.symm
              have hm' : (k : Int) < ((bs.length / 3 : Nat) : Int) := by omega
              clear hcb
              go_region_held3 (fun w' => w'.cell? ⟨cb, 0, none⟩ = some (.int .u8 r0) ∧ w'.cell? ⟨cb, 1, none⟩ = some (.int .u8 r1) ∧ w'.cell? ⟨cb, 2, none⟩ = some (.int .u8 r2) ∧ w'.cell? ⟨cb, 3, none⟩ = some (.int .u8 255) ∧ w'.cell? ⟨R, 11, none⟩ = some (.slice (some ⟨eb, 0, none⟩) (bs.length / 3) (bs.length / 3))) (go_keep)
                (first
                  | (go_at_call 24; refine (pixel8_any _ _ _ _ _).mono ?_; rintro e w' ⟨rfl, rfl⟩))
              rw [HE.out]
              go_wp2_with fail
              have hM5 := HW.out.1.setCell (b := eb) (o := k) (.int .u64 (ent bs ts k)) (fun e => by
                have h1 := HW.out.1.lay
                rw [← e, HW.out.2] at h1
                simp [layObj] at h1) heR (fun e => by
                have h1 := HW.out.1.buf
                rw [← e, HW.out.2] at h1
                simp at h1) (by omega) (by omega)
              have hE5 := heap_set HW.out.2 k (.int .u64 (ent bs ts k))
              rw [entRow_next bs ts (bs.length / 3) k hlt] at hE5
              refine ⟨⟨k + 1, by omega, by go_num, ?_⟩, by simp [intOf]; omega⟩
              exact ⟨hM5.drew, hE5⟩
          · go_wp2_with fail
            go_ret
            have hkm : k = bs.length / 3 := by omega
            subst hkm
            exact ⟨R, rfl, w.heap.size, bb, pb, _, HI.out.1, .inr ⟨H3.out, eb, rfl, HI.out.2, by omega, by omega⟩⟩
      · have b3 : (ct == 3) = false := beq_eq_false_iff_ne.2 h3
        have H3 := Hid.mk h3
        clear h3
        go_wp2_with fail
        go_ret
        exact ⟨R, rfl, w.heap.size, bb, pb, _, HM1.out, .inl ⟨H3.out, rfl⟩⟩
    · have b8 : (d == 8) = false := beq_eq_false_iff_ne.2 h8
      have hM : Made w wc w.heap.size R bb pb wd ht d ct (.slice pa bs.length bs.length) (.slice ta ts.length ts.length) n (.slice none 0 0) (scaleOf d) := by
        have e : scaleOf d = 1 := by simp [scaleOf, h8]
        rw [e]
        exact HM.out
      have HM1 := Hid.mk hM
      clear hM h8
      go_upto_region 4 with fail
      generalize wc = w1 at HM1 ⊢
      clear HM lay d12 d11 df
      have lay := LayS.of HM1.out.lay
      have d11 := HM1.out.c11
      have df := HM1.out.fz
      by_cases h3 : ct = 3
      · have b3 : (ct == 3) = true := beq_iff_eq.2 h3
        have H3 := Hid.mk h3
        clear h3
        have hme := run_ents bs.length hbl
        have a11 : ∀ o, (w1.alloc o).cell? ⟨R, 11, none⟩ = some (.slice none 0 0) := fun o => by
          rw [World.cell?_of_block (Below.heap_alloc _ _ _ (World.block_lt_of_cell? _ _ d11))]
          exact d11
        have af : ∀ o, (w1.alloc o).frozen? ⟨R, 11, none⟩ = false := fun o => by
          rw [World.frozen?_of_block (Below.heap_alloc _ _ _ (World.block_lt_of_cell? _ _ d11))]
          exact df 11
        go_wp2_with fail
        have H0 : Hid (Made w ((w1.alloc (.cells (u64a (List.replicate (bs.length / 3) 0)) 56)).setCell ⟨R, 11, none⟩ (.slice (some ⟨w1.heap.size, 0, none⟩) (bs.length / 3) (bs.length / 3))) w.heap.size R bb pb wd ht d ct (.slice pa bs.length bs.length) (.slice ta ts.length ts.length) n (.slice (some ⟨w1.heap.size, 0, none⟩) (bs.length / 3) (bs.length / 3)) (scaleOf d) ∧ ((w1.alloc (.cells (u64a (List.replicate (bs.length / 3) 0)) 56)).setCell ⟨R, 11, none⟩ (.slice (some ⟨w1.heap.size, 0, none⟩) (bs.length / 3) (bs.length / 3))).heap[w1.heap.size]? = some (.cells (u64a (entRow bs ts (bs.length / 3) 0)) 56)) := by
          refine ⟨(HM1.out.kept ((Below.refl _ _).alloc (Nat.le_refl _) _)).setEntries _, ?_⟩
          rw [Below.heap_setCell _ _ _ _ (by have := World.block_lt_of_cell? _ _ d11; simp at this ⊢; omega), entRow_zero]
          exact heap_new _ _
        have hs1 := HM1.out.below.size
        have hpbl : pb < w1.heap.size := (Array.getElem?_eq_some_iff.1 HM1.out.px).1
        clear HM1 lay d11 df a11 af hme
        generalize (w1.alloc (.cells (u64a (List.replicate (bs.length / 3) 0)) 56)).setCell ⟨R, 11, none⟩ (.slice (some ⟨w1.heap.size, 0, none⟩) (bs.length / 3) (bs.length / 3)) = W2 at H0 ⊢
        generalize w1.heap.size = eb at H0 hs1 hpbl ⊢
        go_loopw [44] (fun t wr => ∃ k : Nat, k ≤ bs.length / 3 ∧ t = .int .i64 k ∧ Hid (Made w wr w.heap.size R bb pb wd ht d ct (.slice pa bs.length bs.length) (.slice ta ts.length ts.length) n (.slice (some ⟨eb, 0, none⟩) (bs.length / 3) (bs.length / 3)) (scaleOf d) ∧ wr.heap[eb]? = some (.cells (u64a (entRow bs ts (bs.length / 3) k)) 56))) (fun t _ => bs.length / 3 - (intOf t).toNat)
        case atStart => exact ⟨0, Nat.zero_le _, rfl, H0⟩
        case round =>
          clear H0
          obtain ⟨k, hk, rfl, HI⟩ := hrel
          by_cases hlt : k < bs.length / 3
          · have hlt' : (k : Int) < (bs.length : Int) / 3 := by omega
            have lay := LayS.of HI.out.1.lay
            have hbel := HI.out.1.below
            rcases HP.out.kept hbel with ⟨_, e0⟩ | ⟨g, rfl, hg⟩
            · rw [e0] at hlt
              simp at hlt
            have c0 := cell_u8 hg (i := 3 * k) (by omega)
            have c1 := cell_u8 hg (i := 3 * k + 1) (by omega)
            have c2 := cell_u8 hg (i := 3 * k + 2) (by omega)
            obtain ⟨r0, hr0⟩ : ∃ r, r = bs.getD (3 * k) 0 := ⟨_, rfl⟩
            obtain ⟨r1, hr1⟩ : ∃ r, r = bs.getD (3 * k + 1) 0 := ⟨_, rfl⟩
            obtain ⟨r2, hr2⟩ : ∃ r, r = bs.getD (3 * k + 2) 0 := ⟨_, rfl⟩
            rw [← hr0] at c0
            rw [← hr1] at c1
            rw [← hr2] at c2
            by_cases hkt : k < ts.length
            · rcases HT.out.kept hbel with ⟨_, e0⟩ | ⟨tb, rfl, ht'⟩
              · rw [e0] at hkt
                simp at hkt
              have ca := cell_u8 ht' (i := k) hkt
              obtain ⟨al, hal⟩ : ∃ r, r = ts.getD k 0 := ⟨_, rfl⟩
              rw [← hal] at ca
              have HE : Hid (px8 r0 r1 r2 al = ent bs ts k) := by
                unfold ent Hid
                rw [if_pos hkt, hr0, hr1, hr2, hal]
              have HCC := Hid.mk (And.intro c0 (And.intro c1 (And.intro c2 ca)))
              clear hr0 hr1 hr2 hal ht' hg hbel c0 c1 c2 ca
              go_wp2_with (go_at_call 23; refine (entry_long _ _ _ _ _ _ _ k r0 r1 r2 hbl (by omega) HCC.out.1 HCC.out.2.1 HCC.out.2.2.1 _ _ _ htl hkt al HCC.out.2.2.2).mono ?_; rintro e w' ⟨rfl, o1, o2, o3, rfl⟩)
              have hbw : Below wr.heap.size wr ((((wr.alloc o1).alloc o2).alloc o3).alloc (.cells #[.int .u8 r0, .int .u8 r1, .int .u8 r2, .int .u8 al] 54)).drew := (fourB _ _ _ _ _).drew
              have HW : Hid (Made w ((((wr.alloc o1).alloc o2).alloc o3).alloc (.cells #[.int .u8 r0, .int .u8 r1, .int .u8 r2, .int .u8 al] 54)).drew w.heap.size R bb pb wd ht d ct (.slice (some ⟨g, 0, none⟩) bs.length bs.length) (.slice (some ⟨tb, 0, none⟩) ts.length ts.length) n (.slice (some ⟨eb, 0, none⟩) (bs.length / 3) (bs.length / 3)) (scaleOf d) ∧ ((((wr.alloc o1).alloc o2).alloc o3).alloc (.cells #[.int .u8 r0, .int .u8 r1, .int .u8 r2, .int .u8 al] 54)).drew.heap[eb]? = some (.cells (u64a (entRow bs ts (bs.length / 3) k)) 56)) :=
                ⟨HI.out.1.kept hbw, (hbw.block eb (Array.getElem?_eq_some_iff.1 HI.out.2).1).trans HI.out.2⟩
              have hcb : ((((wr.alloc o1).alloc o2).alloc o3).alloc (.cells #[.int .u8 r0, .int .u8 r1, .int .u8 r2, .int .u8 al] 54)).drew.heap[wr.heap.size + 1 + 1 + 1]? = some (.cells #[.int .u8 r0, .int .u8 r1, .int .u8 r2, .int .u8 al] 54) := four3 _ _ _ _ _
              have hebw : eb < wr.heap.size := (Array.getElem?_eq_some_iff.1 HI.out.2).1
              clear hbw HI lay HCC
              generalize ((((wr.alloc o1).alloc o2).alloc o3).alloc (.cells #[.int .u8 r0, .int .u8 r1, .int .u8 r2, .int .u8 al] 54)).drew = W4 at HW hcb ⊢
              have hec : ¬ eb = wr.heap.size + 1 + 1 + 1 := by omega
              clear hebw
              generalize wr.heap.size + 1 + 1 + 1 = cb at hcb hec ⊢
              have k0 : W4.cell? ⟨cb, 0, none⟩ = some (.int .u8 r0) := by simp [World.cell?, hcb]
              have k1 : W4.cell? ⟨cb, 1, none⟩ = some (.int .u8 r1) := by simp [World.cell?, hcb]
              have k2 : W4.cell? ⟨cb, 2, none⟩ = some (.int .u8 r2) := by simp [World.cell?, hcb]
              have k3 : W4.cell? ⟨cb, 3, none⟩ = some (.int .u8 al) := by simp [World.cell?, hcb]
              have k4 := HW.out.1.c11
              obtain ⟨ev, k5⟩ : ∃ v, W4.cell? ⟨eb, k, none⟩ = some v := ⟨_, cell_u64 HW.out.2 (by rw [entRow_length]; exact hlt)⟩
              have k6 : W4.frozen? ⟨eb, k, none⟩ = false := by simp [World.frozen?, HW.out.2]
              have heR : ¬ eb = R := fun e => by
                have h1 := HW.out.1.rd
                rw [← e, HW.out.2] at h1
                simp [rdObj] at h1
              have hce : ¬ cb = eb := fun e => hec e.symm
              have hRe : ¬ R = eb := fun e => heR e.symm
              have hm' : (k : Int) < ((bs.length / 3 : Nat) : Int) := by omega
              clear hcb
              go_region_held3 (fun w' => w'.cell? ⟨cb, 0, none⟩ = some (.int .u8 r0) ∧ w'.cell? ⟨cb, 1, none⟩ = some (.int .u8 r1) ∧ w'.cell? ⟨cb, 2, none⟩ = some (.int .u8 r2) ∧ w'.cell? ⟨cb, 3, none⟩ = some (.int .u8 al) ∧ w'.cell? ⟨R, 11, none⟩ = some (.slice (some ⟨eb, 0, none⟩) (bs.length / 3) (bs.length / 3))) (go_keep)
                (first
                  | (go_at_call 24; refine (pixel8_any _ _ _ _ _).mono ?_; rintro e w' ⟨rfl, rfl⟩))
              rw [HE.out]
              go_wp2_with fail
              have hM5 := HW.out.1.setCell (b := eb) (o := k) (.int .u64 (ent bs ts k)) (fun e => by
                have h1 := HW.out.1.lay
                rw [← e, HW.out.2] at h1
                simp [layObj] at h1) heR (fun e => by
                have h1 := HW.out.1.buf
                rw [← e, HW.out.2] at h1
                simp at h1) (by omega) (by omega)
              have hE5 := heap_set HW.out.2 k (.int .u64 (ent bs ts k))
              rw [entRow_next bs ts (bs.length / 3) k hlt] at hE5
              refine ⟨⟨k + 1, by omega, by go_num, ?_⟩, by simp [intOf]; omega⟩
              exact ⟨hM5.drew, hE5⟩
            · have HE : Hid (px8 r0 r1 r2 255 = ent bs ts k) := by
                unfold ent Hid
                rw [if_neg hkt, hr0, hr1, hr2]
              have HCC := Hid.mk (And.intro c0 (And.intro c1 c2))
              clear hr0 hr1 hr2 hg hbel c0 c1 c2
              go_wp2_with (go_at_call 23; refine (entry_short _ _ _ _ _ _ _ k r0 r1 r2 hbl (by omega) HCC.out.1 HCC.out.2.1 HCC.out.2.2 _ _ _ (by omega)).mono ?_; rintro e w' ⟨rfl, o1, o2, o3, rfl⟩)
              have hbw : Below wr.heap.size wr ((((wr.alloc o1).alloc o2).alloc o3).alloc (.cells #[.int .u8 r0, .int .u8 r1, .int .u8 r2, .int .u8 255] 54)).drew := (fourB _ _ _ _ _).drew
              have HW : Hid (Made w ((((wr.alloc o1).alloc o2).alloc o3).alloc (.cells #[.int .u8 r0, .int .u8 r1, .int .u8 r2, .int .u8 255] 54)).drew w.heap.size R bb pb wd ht d ct (.slice (some ⟨g, 0, none⟩) bs.length bs.length) (.slice ta ts.length ts.length) n (.slice (some ⟨eb, 0, none⟩) (bs.length / 3) (bs.length / 3)) (scaleOf d) ∧ ((((wr.alloc o1).alloc o2).alloc o3).alloc (.cells #[.int .u8 r0, .int .u8 r1, .int .u8 r2, .int .u8 255] 54)).drew.heap[eb]? = some (.cells (u64a (entRow bs ts (bs.length / 3) k)) 56)) :=
                ⟨HI.out.1.kept hbw, (hbw.block eb (Array.getElem?_eq_some_iff.1 HI.out.2).1).trans HI.out.2⟩
              have hcb : ((((wr.alloc o1).alloc o2).alloc o3).alloc (.cells #[.int .u8 r0, .int .u8 r1, .int .u8 r2, .int .u8 255] 54)).drew.heap[wr.heap.size + 1 + 1 + 1]? = some (.cells #[.int .u8 r0, .int .u8 r1, .int .u8 r2, .int .u8 255] 54) := four3 _ _ _ _ _
              have hebw : eb < wr.heap.size := (Array.getElem?_eq_some_iff.1 HI.out.2).1
              clear hbw HI lay HCC
              generalize ((((wr.alloc o1).alloc o2).alloc o3).alloc (.cells #[.int .u8 r0, .int .u8 r1, .int .u8 r2, .int .u8 255] 54)).drew = W4 at HW hcb ⊢
              have hec : ¬ eb = wr.heap.size + 1 + 1 + 1 := by omega
              clear hebw
              generalize wr.heap.size + 1 + 1 + 1 = cb at hcb hec ⊢
              have k0 : W4.cell? ⟨cb, 0, none⟩ = some (.int .u8 r0) := by simp [World.cell?, hcb]
              have k1 : W4.cell? ⟨cb, 1, none⟩ = some (.int .u8 r1) := by simp [World.cell?, hcb]
              have k2 : W4.cell? ⟨cb, 2, none⟩ = some (.int .u8 r2) := by simp [World.cell?, hcb]
              have k3 : W4.cell? ⟨cb, 3, none⟩ = some (.int .u8 255) := by simp [World.cell?, hcb]
              have k4 := HW.out.1.c11
              obtain ⟨ev, k5⟩ : ∃ v, W4.cell? ⟨eb, k, none⟩ = some v := ⟨_, cell_u64 HW.out.2 (by rw [entRow_length]; exact hlt)⟩
              have k6 : W4.frozen? ⟨eb, k, none⟩ = false := by simp [World.frozen?, HW.out.2]
              have heR : ¬ eb = R := fun e => by
                have h1 := HW.out.1.rd
                rw [← e, HW.out.2] at h1
                simp [rdObj] at h1
              have hce : ¬ cb = eb := fun e => hec e.symm
              have hRe : ¬ R = eb := fun e => heR e.symm
              have hm' : (k : Int) < ((bs.length / 3 : Nat) : Int) := by omega
              clear hcb
              go_region_held3 (fun w' => w'.cell? ⟨cb, 0, none⟩ = some (.int .u8 r0) ∧ w'.cell? ⟨cb, 1, none⟩ = some (.int .u8 r1) ∧ w'.cell? ⟨cb, 2, none⟩ = some (.int .u8 r2) ∧ w'.cell? ⟨cb, 3, none⟩ = some (.int .u8 255) ∧ w'.cell? ⟨R, 11, none⟩ = some (.slice (some ⟨eb, 0, none⟩) (bs.length / 3) (bs.length / 3))) (go_keep)
                (first
                  | (go_at_call 24; refine (pixel8_any _ _ _ _ _).mono ?_; rintro e w' ⟨rfl, rfl⟩))
              rw [HE.out]
              go_wp2_with fail
              have hM5 := HW.out.1.setCell (b := eb) (o := k) (.int .u64 (ent bs ts k)) (fun e => by
                have h1 := HW.out.1.lay
                rw [← e, HW.out.2] at h1
                simp [layObj] at h1) heR (fun e => by
                have h1 := HW.out.1.buf
                rw [← e, HW.out.2] at h1
                simp at h1) (by omega) (by omega)
              have hE5 := heap_set HW.out.2 k (.int .u64 (ent bs ts k))
              rw [entRow_next bs ts (bs.length / 3) k hlt] at hE5
              refine ⟨⟨k + 1, by omega, by go_num, ?_⟩, by simp [intOf]; omega⟩
              exact ⟨hM5.drew, hE5⟩
          · go_wp2_with fail
            go_ret
            have hkm : k = bs.length / 3 := by omega
            subst hkm
            exact ⟨R, rfl, w.heap.size, bb, pb, _, HI.out.1, .inr ⟨H3.out, eb, rfl, HI.out.2, by omega, by omega⟩⟩
      · have b3 : (ct == 3) = false := beq_eq_false_iff_ne.2 h3
        have H3 := Hid.mk h3
        clear h3
        go_wp2_with fail
        go_ret
        exact ⟨R, rfl, w.heap.size, bb, pb, _, HM1.out, .inl ⟨H3.out, rfl⟩⟩

end Go.Proofs.Qxb6612991aDoorRR
