/-
  Seat Qxb6612991aDoorRR: readerIsFresh: its contract.
-/
import Derived.Test.Qxb6612991aDoorRRRead
import Derived.Outline
namespace Go.Proofs.Qxb6612991aDoorRR
open Go.RowKit
set_option linter.unusedVariables false
set_option linter.unusedSimpArgs false

/-- A reader as readerIsFresh wants it. -/
structure Fr (w : World) (R bb pb wd : Nat) (ht d ct : Int) (pa ta : Option Addr) (bs ts : List Int) (n : Nat) (env : Value) : Prop where
  rd : w.heap[R]? = some (rdObj (wd : Int) ht d ct (.slice pa bs.length bs.length) (.slice ta ts.length ts.length) (.slice (some ⟨bb, 0, none⟩) n n) (.slice (some ⟨pb, 0, none⟩) wd wd) env (scaleOf d))
  buf : w.heap[bb]? = some (.cells (u8a (List.replicate n 0)) 5)
  px : w.heap[pb]? = some (.cells (u64a (List.replicate wd 0)) 56)
  ents : (ct ≠ 3 ∧ env = .slice none 0 0) ∨ (ct = 3 ∧ ∃ eb, env = .slice (some ⟨eb, 0, none⟩) (bs.length / 3) (bs.length / 3) ∧ w.heap[eb]? = some (.cells (u64a (entRow bs ts (bs.length / 3) (bs.length / 3))) 56))
  pal : BytesAt w pa bs
  tra : BytesAt w ta ts

theorem Fr.drewN {w : World} {R bb pb wd : Nat} {ht d ct : Int} {pa ta : Option Addr} {bs ts : List Int} {n : Nat} {env : Value} (F : Fr w R bb pb wd ht d ct pa ta bs ts n env) (k : Nat) : Fr (w.drewN k) R bb pb wd ht d ct pa ta bs ts n env :=
  ⟨F.rd, F.buf, F.px, F.ents, F.pal, F.tra⟩

theorem zero_u8 {w : World} {g n : Nat} (h : w.heap[g]? = some (.cells (u8a (List.replicate n 0)) 5)) {i : Nat} (hi : i < n) : w.cell? ⟨g, i, none⟩ = some (.int .u8 0) := by
  have := cell_u8 h (i := i) (by simpa using hi)
  rw [this]
  simp [hi]
theorem zero_u64 {w : World} {g n : Nat} (h : w.heap[g]? = some (.cells (u64a (List.replicate n 0)) 56)) {i : Nat} (hi : i < n) : w.cell? ⟨g, i, none⟩ = some (.int .u64 0) := by
  have := cell_u64 h (i := i) (by simpa using hi)
  rw [this]
  simp [hi]

theorem scaleOf_bd (d : Int) : 0 ≤ scaleOf d ∧ scaleOf d ≤ 257 := by
  unfold scaleOf
  split <;> omega

def isByte (l : List Int) : Prop := ∀ i, 0 ≤ l.getD i 0 ∧ l.getD i 0 ≤ 255

theorem ent_want (bs ts : List Int) (k : Nat) (hb : isByte bs) (ht : isByte ts) : ent bs ts k = want (bs.getD (3 * k) 0) (bs.getD (3 * k + 1) 0) (bs.getD (3 * k + 2) 0) (if k < ts.length then ts.getD k 0 else 255) := by
  unfold ent
  have h := ht k
  exact want_eq _ _ _ _ (hb _).1 (hb _).2 (hb _).1 (hb _).2 (hb _).1 (hb _).2 (by split <;> omega) (by split <;> omega)

theorem drewN_two (w : World) (a b : Nat) : (w.drewN a).drewN b = w.drewN (a + b) := by simp [World.drewN]; omega

set_option maxRecDepth 100000 in
set_option maxHeartbeats 6400000 in
theorem fresh_any {w : World} {R bb pb wd : Nat} {ht d ct ch : Int} {pa ta : Option Addr} {bs ts : List Int} {n : Nat} {env : Value} {A B : Int} (F : Fr w R bb pb wd ht d ct pa ta bs ts n env) (N : Nums wd d ch n A B) (hwd : wd ≤ 65536) (hbl : bs.length ≤ 4096) (htl : ts.length ≤ 4096) (hbs : isByte bs) (hts : isByte ts) :
    Calls Tryd.prog 9 #[.pointer (some ⟨R, 0, none⟩), .int .i64 (wd : Int), .int .i64 ht, .int .i64 d, .int .u8 ct, .int .i64 ch, .slice pa bs.length bs.length, .slice ta ts.length ts.length] w fun e w' => e = .returned (.bool true) ∧ ∃ k, w' = w.drewN k := by
  have HF := Hid.mk F
  have HBS := Hid.mk (And.intro hbs hts)
  have hA := N.a
  have hB := N.b
  have hlo := N.lo
  have hhi := N.hi
  have hbd := N.bd
  have hcap := N.cap
  clear F N hbs hts
  by_cases hn0 : 0 < n
  · go_enter Tryd.func9, Tryd.ntmps9
    go_wp2_with (go_at_call 11; refine (buf_any HF.out.rd).mono ?_; rintro e w' ⟨rfl, rfl⟩)
    go_loop [19] (fun t => ∃ k : Nat, k ≤ n ∧ t = .int .i64 k) (fun t => n - (intOf t).toNat)
    case atStart => exact ⟨0, Nat.zero_le _, rfl⟩
    case round =>
      obtain ⟨k, hk, rfl⟩ := hrel
      by_cases hlt : k < n
      · have hlt' : (k : Int) < (n : Int) := by omega
        have c := zero_u8 HF.out.buf hlt
        go_wp2_with fail
        exact ⟨⟨k + 1, by omega, by go_num⟩, by simp [intOf]; omega⟩
      · go_wp2_with fail
        refine (pxlen_any HF.out.rd).mono ?_
        rintro e w' ⟨rfl, rfl⟩
        go_wp2_with fail
        go_loop [20] (fun t => ∃ k : Nat, k ≤ wd ∧ t = .int .i64 k) (fun t => wd - (intOf t).toNat)
        case atStart => exact ⟨0, Nat.zero_le _, rfl⟩
        case round =>
          obtain ⟨j, hj, rfl⟩ := hrel
          by_cases hjt : j < wd
          · have hjt' : (j : Int) < (wd : Int) := by omega
            go_wp2_with fail
            refine (px_any HF.out.rd hwd j hjt _ (zero_u64 HF.out.px hjt)).mono ?_
            rintro e w' ⟨rfl, rfl⟩
            go_wp2_with fail
            exact ⟨⟨j + 1, by omega, by go_num⟩, by simp [intOf]; omega⟩
          · by_cases h8 : d = 8
            · have hs : scaleOf d = 257 := by simp [scaleOf, h8]
              have b8 : (d == 8) = true := by simp [h8]
              go_wp2_with fail
              refine (scale_any HF.out.rd (scaleOf_bd d).1 (scaleOf_bd d).2).mono ?_
              rw [hs]
              rintro e w' ⟨rfl, rfl⟩
              rcases HF.out.ents with ⟨h3, rfl⟩ | ⟨h3, eb, rfl, he⟩
              · have b3 : (ct == 3) = false := by simp [h3]
                go_wp2_with fail
                refine (entlen_any HF.out.rd).mono ?_
                rintro e w' ⟨rfl, rfl⟩
                go_wp2_with fail
                refine (layout_any HF.out.rd).mono ?_
                rintro e w6 ⟨rfl, q1, rfl⟩
                go_wp2_with fail
                refine (tables_any (HF.out.drewN _).rd).mono ?_
                rintro e w6 ⟨rfl, q2, rfl⟩
                go_wp2_with fail
                refine (same_self _ _ _ (HF.out.drewN _).pal.is (by omega)).mono ?_
                rintro e w6 ⟨rfl, q3, rfl⟩
                go_wp2_with fail
                refine (same_self _ _ _ (HF.out.drewN _).tra.is (by omega)).mono ?_
                rintro e w6 ⟨rfl, q4, rfl⟩
                go_wp2_with fail
                go_ret
                first
                  | exact ⟨rfl, _, rfl⟩
                  | exact ⟨rfl, _, drewN_two _ _ _⟩
              · have b3 : (ct == 3) = true := by simp [h3]
                have HE := Hid.mk he
                clear he
                go_wp2_with fail
                refine (entlen_any HF.out.rd).mono ?_
                rintro e w' ⟨rfl, rfl⟩
                have hq3 : (bs.length : Int) / 3 = ((bs.length / 3 : Nat) : Int) := by omega
                obtain ⟨m, hm⟩ : ∃ m, m = bs.length / 3 := ⟨_, rfl⟩
                have hm4 : m ≤ 4096 := by omega
                rw [← hm] at hq3 ⊢
                have HM := Hid.mk hm
                clear hm
                go_wp2_with fail
                go_loopw [23] (fun t wr => ∃ k q : Nat, k ≤ m ∧ t = .int .i64 k ∧ wr = w.drewN q) (fun t _ => m - (intOf t).toNat)
                case atStart => exact ⟨0, 0, Nat.zero_le _, rfl, rfl⟩
                case round =>
                  obtain ⟨i, q, hi, rfl, rfl⟩ := hrel
                  by_cases hit : i < m
                  · have hit' : (i : Int) < (m : Int) := by omega
                    have h3i : 3 * i + 2 < bs.length := by have := HM.out; omega
                    rcases HF.out.pal with ⟨_, e0⟩ | ⟨g, rfl, hg⟩
                    · rw [e0] at h3i
                      simp at h3i
                    have c0 := cell_u8 hg (i := 3 * i) (by omega)
                    have c1 := cell_u8 hg (i := 3 * i + 1) (by omega)
                    have c2 := cell_u8 hg (i := 3 * i + 2) (by omega)
                    have HW := Hid.mk (ent_want bs ts i HBS.out.1 HBS.out.2)
                    have HEN : Hid (w.cell? ⟨eb, i, none⟩ = some (.int .u64 (ent bs ts i))) := by
                      have he := HE.out
                      rw [← HM.out] at he
                      have := cell_u64 he (i := i) (by rw [entRow_length]; exact hit)
                      rw [entRow_get _ _ _ _ _ hit, if_pos hit] at this
                      exact this
                    obtain ⟨r0, hr0⟩ : ∃ r, r = bs.getD (3 * i) 0 := ⟨_, rfl⟩
                    obtain ⟨r1, hr1⟩ : ∃ r, r = bs.getD (3 * i + 1) 0 := ⟨_, rfl⟩
                    obtain ⟨r2, hr2⟩ : ∃ r, r = bs.getD (3 * i + 2) 0 := ⟨_, rfl⟩
                    rw [← hr0] at c0
                    rw [← hr1] at c1
                    rw [← hr2] at c2
                    obtain ⟨j0, hj0⟩ : ∃ x, x = 3 * i := ⟨_, rfl⟩
                    obtain ⟨j1, hj1⟩ : ∃ x, x = 3 * i + 1 := ⟨_, rfl⟩
                    obtain ⟨j2, hj2⟩ : ∃ x, x = 3 * i + 2 := ⟨_, rfl⟩
                    rw [← hj0] at c0
                    rw [← hj1] at c1
                    rw [← hj2] at c2
                    have z0 : wrap64 (3 * (i : Int)) = (j0 : Int) := by rw [wrap64_small _ (by omega) (by omega)]; omega
                    have z1 : wrap64 ((j0 : Int) + 1) = (j1 : Int) := by rw [wrap64_small _ (by omega) (by omega)]; omega
                    have z2 : wrap64 ((j0 : Int) + 2) = (j2 : Int) := by rw [wrap64_small _ (by omega) (by omega)]; omega
                    have y0 : 3 * (i : Int) = (j0 : Int) := by omega
                    have y1 : (j0 : Int) + 1 = (j1 : Int) := by omega
                    have y2 : (j0 : Int) + 2 = (j2 : Int) := by omega
                    have x0 : (j0 : Int) < (bs.length : Int) := by omega
                    have x1 : (j1 : Int) < (bs.length : Int) := by omega
                    have x2 : (j2 : Int) < (bs.length : Int) := by omega
                    clear hj0 hj1 hj2 h3i
                    by_cases hkt : i < ts.length
                    · have hkt' : (i : Int) < (ts.length : Int) := by omega
                      rcases HF.out.tra with ⟨_, e0⟩ | ⟨tb, rfl, ht'⟩
                      · rw [e0] at hkt
                        simp at hkt
                      have ca := cell_u8 ht' (i := i) hkt
                      obtain ⟨al, hal⟩ : ∃ r, r = ts.getD i 0 := ⟨_, rfl⟩
                      rw [← hal] at ca
                      obtain ⟨y, hy⟩ : ∃ y, y = ent bs ts i := ⟨_, rfl⟩
                      have HY : Hid (y = want r0 r1 r2 al) := by
                        have := HW.out
                        rw [if_pos hkt, ← hr0, ← hr1, ← hr2, ← hal] at this
                        exact hy.trans this
                      rw [← hy] at HEN
                      clear hr0 hr1 hr2 hal hy ht' hg HW
                      go_wp2_with fail
                      go_quiet ((go_at_call 17; exact (wide_any _ _).mono fun _ _ ⟨he, hm⟩ => ⟨he, _, hm.symm⟩))
                      go_wp2_with fail
                      refine (ent_any (HF.out.drewN _).rd (by have := HM.out; omega) i (by rw [← HM.out]; exact hit) y HEN.out).mono ?_
                      rintro e w' ⟨rfl, rfl⟩
                      have hyy := HY.out
                      unfold want at hyy
                      go_wp2_with fail
                      exact ⟨⟨i + 1, _, by omega, by go_num, rfl⟩, by simp [intOf]; omega⟩
                    · obtain ⟨y, hy⟩ : ∃ y, y = ent bs ts i := ⟨_, rfl⟩
                      have hkt' : ¬ (i : Int) < (ts.length : Int) := by omega
                      have HY : Hid (y = want r0 r1 r2 255) := by
                        have := HW.out
                        rw [if_neg hkt, ← hr0, ← hr1, ← hr2] at this
                        exact hy.trans this
                      rw [← hy] at HEN
                      clear hr0 hr1 hr2 hy hg HW
                      go_wp2_with fail
                      go_quiet ((go_at_call 17; exact (wide_any _ _).mono fun _ _ ⟨he, hm⟩ => ⟨he, _, hm.symm⟩))
                      go_wp2_with fail
                      refine (ent_any (HF.out.drewN _).rd (by have := HM.out; omega) i (by rw [← HM.out]; exact hit) y HEN.out).mono ?_
                      rintro e w' ⟨rfl, rfl⟩
                      have hyy := HY.out
                      unfold want at hyy
                      go_wp2_with fail
                      exact ⟨⟨i + 1, _, by omega, by go_num, rfl⟩, by simp [intOf]; omega⟩
                  · go_wp2_with fail
                    refine (layout_any (HF.out.drewN _).rd).mono ?_
                    rintro e w6 ⟨rfl, q1, rfl⟩
                    go_wp2_with fail
                    refine (tables_any (HF.out.drewN _).rd).mono ?_
                    rintro e w6 ⟨rfl, q2, rfl⟩
                    go_wp2_with fail
                    refine (same_self _ _ _ (HF.out.drewN _).pal.is (by omega)).mono ?_
                    rintro e w6 ⟨rfl, q3, rfl⟩
                    go_wp2_with fail
                    refine (same_self _ _ _ (HF.out.drewN _).tra.is (by omega)).mono ?_
                    rintro e w6 ⟨rfl, q4, rfl⟩
                    go_wp2_with fail
                    go_ret
                    first
                      | exact ⟨rfl, _, rfl⟩
                      | exact ⟨rfl, _, drewN_two _ _ _⟩
            · have hs : scaleOf d = 1 := by simp [scaleOf, h8]
              have b8 : (d == 8) = false := by simp [h8]
              go_wp2_with fail
              refine (scale_any HF.out.rd (scaleOf_bd d).1 (scaleOf_bd d).2).mono ?_
              rw [hs]
              rintro e w' ⟨rfl, rfl⟩
              rcases HF.out.ents with ⟨h3, rfl⟩ | ⟨h3, eb, rfl, he⟩
              · have b3 : (ct == 3) = false := by simp [h3]
                go_wp2_with fail
                refine (entlen_any HF.out.rd).mono ?_
                rintro e w' ⟨rfl, rfl⟩
                go_wp2_with fail
                refine (layout_any HF.out.rd).mono ?_
                rintro e w6 ⟨rfl, q1, rfl⟩
                go_wp2_with fail
                refine (tables_any (HF.out.drewN _).rd).mono ?_
                rintro e w6 ⟨rfl, q2, rfl⟩
                go_wp2_with fail
                refine (same_self _ _ _ (HF.out.drewN _).pal.is (by omega)).mono ?_
                rintro e w6 ⟨rfl, q3, rfl⟩
                go_wp2_with fail
                refine (same_self _ _ _ (HF.out.drewN _).tra.is (by omega)).mono ?_
                rintro e w6 ⟨rfl, q4, rfl⟩
                go_wp2_with fail
                go_ret
                first
                  | exact ⟨rfl, _, rfl⟩
                  | exact ⟨rfl, _, drewN_two _ _ _⟩
              · have b3 : (ct == 3) = true := by simp [h3]
                have HE := Hid.mk he
                clear he
                go_wp2_with fail
                refine (entlen_any HF.out.rd).mono ?_
                rintro e w' ⟨rfl, rfl⟩
                have hq3 : (bs.length : Int) / 3 = ((bs.length / 3 : Nat) : Int) := by omega
                obtain ⟨m, hm⟩ : ∃ m, m = bs.length / 3 := ⟨_, rfl⟩
                have hm4 : m ≤ 4096 := by omega
                rw [← hm] at hq3 ⊢
                have HM := Hid.mk hm
                clear hm
                go_wp2_with fail
                go_loopw [23] (fun t wr => ∃ k q : Nat, k ≤ m ∧ t = .int .i64 k ∧ wr = w.drewN q) (fun t _ => m - (intOf t).toNat)
                case atStart => exact ⟨0, 0, Nat.zero_le _, rfl, rfl⟩
                case round =>
                  obtain ⟨i, q, hi, rfl, rfl⟩ := hrel
                  by_cases hit : i < m
                  · have hit' : (i : Int) < (m : Int) := by omega
                    have h3i : 3 * i + 2 < bs.length := by have := HM.out; omega
                    rcases HF.out.pal with ⟨_, e0⟩ | ⟨g, rfl, hg⟩
                    · rw [e0] at h3i
                      simp at h3i
                    have c0 := cell_u8 hg (i := 3 * i) (by omega)
                    have c1 := cell_u8 hg (i := 3 * i + 1) (by omega)
                    have c2 := cell_u8 hg (i := 3 * i + 2) (by omega)
                    have HW := Hid.mk (ent_want bs ts i HBS.out.1 HBS.out.2)
                    have HEN : Hid (w.cell? ⟨eb, i, none⟩ = some (.int .u64 (ent bs ts i))) := by
                      have he := HE.out
                      rw [← HM.out] at he
                      have := cell_u64 he (i := i) (by rw [entRow_length]; exact hit)
                      rw [entRow_get _ _ _ _ _ hit, if_pos hit] at this
                      exact this
                    obtain ⟨r0, hr0⟩ : ∃ r, r = bs.getD (3 * i) 0 := ⟨_, rfl⟩
                    obtain ⟨r1, hr1⟩ : ∃ r, r = bs.getD (3 * i + 1) 0 := ⟨_, rfl⟩
                    obtain ⟨r2, hr2⟩ : ∃ r, r = bs.getD (3 * i + 2) 0 := ⟨_, rfl⟩
                    rw [← hr0] at c0
                    rw [← hr1] at c1
                    rw [← hr2] at c2
                    obtain ⟨j0, hj0⟩ : ∃ x, x = 3 * i := ⟨_, rfl⟩
                    obtain ⟨j1, hj1⟩ : ∃ x, x = 3 * i + 1 := ⟨_, rfl⟩
                    obtain ⟨j2, hj2⟩ : ∃ x, x = 3 * i + 2 := ⟨_, rfl⟩
                    rw [← hj0] at c0
                    rw [← hj1] at c1
                    rw [← hj2] at c2
                    have z0 : wrap64 (3 * (i : Int)) = (j0 : Int) := by rw [wrap64_small _ (by omega) (by omega)]; omega
                    have z1 : wrap64 ((j0 : Int) + 1) = (j1 : Int) := by rw [wrap64_small _ (by omega) (by omega)]; omega
                    have z2 : wrap64 ((j0 : Int) + 2) = (j2 : Int) := by rw [wrap64_small _ (by omega) (by omega)]; omega
                    have y0 : 3 * (i : Int) = (j0 : Int) := by omega
                    have y1 : (j0 : Int) + 1 = (j1 : Int) := by omega
                    have y2 : (j0 : Int) + 2 = (j2 : Int) := by omega
                    have x0 : (j0 : Int) < (bs.length : Int) := by omega
                    have x1 : (j1 : Int) < (bs.length : Int) := by omega
                    have x2 : (j2 : Int) < (bs.length : Int) := by omega
                    clear hj0 hj1 hj2 h3i
                    by_cases hkt : i < ts.length
                    · have hkt' : (i : Int) < (ts.length : Int) := by omega
                      rcases HF.out.tra with ⟨_, e0⟩ | ⟨tb, rfl, ht'⟩
                      · rw [e0] at hkt
                        simp at hkt
                      have ca := cell_u8 ht' (i := i) hkt
                      obtain ⟨al, hal⟩ : ∃ r, r = ts.getD i 0 := ⟨_, rfl⟩
                      rw [← hal] at ca
                      obtain ⟨y, hy⟩ : ∃ y, y = ent bs ts i := ⟨_, rfl⟩
                      have HY : Hid (y = want r0 r1 r2 al) := by
                        have := HW.out
                        rw [if_pos hkt, ← hr0, ← hr1, ← hr2, ← hal] at this
                        exact hy.trans this
                      rw [← hy] at HEN
                      clear hr0 hr1 hr2 hal hy ht' hg HW
                      go_wp2_with fail
                      go_quiet ((go_at_call 17; exact (wide_any _ _).mono fun _ _ ⟨he, hm⟩ => ⟨he, _, hm.symm⟩))
                      go_wp2_with fail
                      refine (ent_any (HF.out.drewN _).rd (by have := HM.out; omega) i (by rw [← HM.out]; exact hit) y HEN.out).mono ?_
                      rintro e w' ⟨rfl, rfl⟩
                      have hyy := HY.out
                      unfold want at hyy
                      go_wp2_with fail
                      exact ⟨⟨i + 1, _, by omega, by go_num, rfl⟩, by simp [intOf]; omega⟩
                    · obtain ⟨y, hy⟩ : ∃ y, y = ent bs ts i := ⟨_, rfl⟩
                      have hkt' : ¬ (i : Int) < (ts.length : Int) := by omega
                      have HY : Hid (y = want r0 r1 r2 255) := by
                        have := HW.out
                        rw [if_neg hkt, ← hr0, ← hr1, ← hr2] at this
                        exact hy.trans this
                      rw [← hy] at HEN
                      clear hr0 hr1 hr2 hy hg HW
                      go_wp2_with fail
                      go_quiet ((go_at_call 17; exact (wide_any _ _).mono fun _ _ ⟨he, hm⟩ => ⟨he, _, hm.symm⟩))
                      go_wp2_with fail
                      refine (ent_any (HF.out.drewN _).rd (by have := HM.out; omega) i (by rw [← HM.out]; exact hit) y HEN.out).mono ?_
                      rintro e w' ⟨rfl, rfl⟩
                      have hyy := HY.out
                      unfold want at hyy
                      go_wp2_with fail
                      exact ⟨⟨i + 1, _, by omega, by go_num, rfl⟩, by simp [intOf]; omega⟩
                  · go_wp2_with fail
                    refine (layout_any (HF.out.drewN _).rd).mono ?_
                    rintro e w6 ⟨rfl, q1, rfl⟩
                    go_wp2_with fail
                    refine (tables_any (HF.out.drewN _).rd).mono ?_
                    rintro e w6 ⟨rfl, q2, rfl⟩
                    go_wp2_with fail
                    refine (same_self _ _ _ (HF.out.drewN _).pal.is (by omega)).mono ?_
                    rintro e w6 ⟨rfl, q3, rfl⟩
                    go_wp2_with fail
                    refine (same_self _ _ _ (HF.out.drewN _).tra.is (by omega)).mono ?_
                    rintro e w6 ⟨rfl, q4, rfl⟩
                    go_wp2_with fail
                    go_ret
                    first
                      | exact ⟨rfl, _, rfl⟩
                      | exact ⟨rfl, _, drewN_two _ _ _⟩
  · go_enter Tryd.func9, Tryd.ntmps9
    go_wp2_with (go_at_call 11; refine (buf_any HF.out.rd).mono ?_; rintro e w' ⟨rfl, rfl⟩)
    go_loop [19] (fun t => ∃ k : Nat, k ≤ n ∧ t = .int .i64 k) (fun t => n - (intOf t).toNat)
    case atStart => exact ⟨0, Nat.zero_le _, rfl⟩
    case round =>
      obtain ⟨k, hk, rfl⟩ := hrel
      by_cases hlt : k < n
      · have hlt' : (k : Int) < (n : Int) := by omega
        have c := zero_u8 HF.out.buf hlt
        go_wp2_with fail
        exact ⟨⟨k + 1, by omega, by go_num⟩, by simp [intOf]; omega⟩
      · go_wp2_with fail
        refine (pxlen_any HF.out.rd).mono ?_
        rintro e w' ⟨rfl, rfl⟩
        go_wp2_with fail
        go_loop [20] (fun t => ∃ k : Nat, k ≤ wd ∧ t = .int .i64 k) (fun t => wd - (intOf t).toNat)
        case atStart => exact ⟨0, Nat.zero_le _, rfl⟩
        case round =>
          obtain ⟨j, hj, rfl⟩ := hrel
          by_cases hjt : j < wd
          · have hjt' : (j : Int) < (wd : Int) := by omega
            go_wp2_with fail
            refine (px_any HF.out.rd hwd j hjt _ (zero_u64 HF.out.px hjt)).mono ?_
            rintro e w' ⟨rfl, rfl⟩
            go_wp2_with fail
            exact ⟨⟨j + 1, by omega, by go_num⟩, by simp [intOf]; omega⟩
          · by_cases h8 : d = 8
            · have hs : scaleOf d = 257 := by simp [scaleOf, h8]
              have b8 : (d == 8) = true := by simp [h8]
              go_wp2_with fail
              refine (scale_any HF.out.rd (scaleOf_bd d).1 (scaleOf_bd d).2).mono ?_
              rw [hs]
              rintro e w' ⟨rfl, rfl⟩
              rcases HF.out.ents with ⟨h3, rfl⟩ | ⟨h3, eb, rfl, he⟩
              · have b3 : (ct == 3) = false := by simp [h3]
                go_wp2_with fail
                refine (entlen_any HF.out.rd).mono ?_
                rintro e w' ⟨rfl, rfl⟩
                go_wp2_with fail
                refine (layout_any HF.out.rd).mono ?_
                rintro e w6 ⟨rfl, q1, rfl⟩
                go_wp2_with fail
                refine (tables_any (HF.out.drewN _).rd).mono ?_
                rintro e w6 ⟨rfl, q2, rfl⟩
                go_wp2_with fail
                refine (same_self _ _ _ (HF.out.drewN _).pal.is (by omega)).mono ?_
                rintro e w6 ⟨rfl, q3, rfl⟩
                go_wp2_with fail
                refine (same_self _ _ _ (HF.out.drewN _).tra.is (by omega)).mono ?_
                rintro e w6 ⟨rfl, q4, rfl⟩
                go_wp2_with fail
                go_ret
                first
                  | exact ⟨rfl, _, rfl⟩
                  | exact ⟨rfl, _, drewN_two _ _ _⟩
              · have b3 : (ct == 3) = true := by simp [h3]
                have HE := Hid.mk he
                clear he
                go_wp2_with fail
                refine (entlen_any HF.out.rd).mono ?_
                rintro e w' ⟨rfl, rfl⟩
                have hq3 : (bs.length : Int) / 3 = ((bs.length / 3 : Nat) : Int) := by omega
                obtain ⟨m, hm⟩ : ∃ m, m = bs.length / 3 := ⟨_, rfl⟩
                have hm4 : m ≤ 4096 := by omega
                rw [← hm] at hq3 ⊢
                have HM := Hid.mk hm
                clear hm
                go_wp2_with fail
                go_loopw [23] (fun t wr => ∃ k q : Nat, k ≤ m ∧ t = .int .i64 k ∧ wr = w.drewN q) (fun t _ => m - (intOf t).toNat)
                case atStart => exact ⟨0, 0, Nat.zero_le _, rfl, rfl⟩
                case round =>
                  obtain ⟨i, q, hi, rfl, rfl⟩ := hrel
                  by_cases hit : i < m
                  · have hit' : (i : Int) < (m : Int) := by omega
                    have h3i : 3 * i + 2 < bs.length := by have := HM.out; omega
                    rcases HF.out.pal with ⟨_, e0⟩ | ⟨g, rfl, hg⟩
                    · rw [e0] at h3i
                      simp at h3i
                    have c0 := cell_u8 hg (i := 3 * i) (by omega)
                    have c1 := cell_u8 hg (i := 3 * i + 1) (by omega)
                    have c2 := cell_u8 hg (i := 3 * i + 2) (by omega)
                    have HW := Hid.mk (ent_want bs ts i HBS.out.1 HBS.out.2)
                    have HEN : Hid (w.cell? ⟨eb, i, none⟩ = some (.int .u64 (ent bs ts i))) := by
                      have he := HE.out
                      rw [← HM.out] at he
                      have := cell_u64 he (i := i) (by rw [entRow_length]; exact hit)
                      rw [entRow_get _ _ _ _ _ hit, if_pos hit] at this
                      exact this
                    obtain ⟨r0, hr0⟩ : ∃ r, r = bs.getD (3 * i) 0 := ⟨_, rfl⟩
                    obtain ⟨r1, hr1⟩ : ∃ r, r = bs.getD (3 * i + 1) 0 := ⟨_, rfl⟩
                    obtain ⟨r2, hr2⟩ : ∃ r, r = bs.getD (3 * i + 2) 0 := ⟨_, rfl⟩
                    rw [← hr0] at c0
                    rw [← hr1] at c1
                    rw [← hr2] at c2
                    obtain ⟨j0, hj0⟩ : ∃ x, x = 3 * i := ⟨_, rfl⟩
                    obtain ⟨j1, hj1⟩ : ∃ x, x = 3 * i + 1 := ⟨_, rfl⟩
                    obtain ⟨j2, hj2⟩ : ∃ x, x = 3 * i + 2 := ⟨_, rfl⟩
                    rw [← hj0] at c0
                    rw [← hj1] at c1
                    rw [← hj2] at c2
                    have z0 : wrap64 (3 * (i : Int)) = (j0 : Int) := by rw [wrap64_small _ (by omega) (by omega)]; omega
                    have z1 : wrap64 ((j0 : Int) + 1) = (j1 : Int) := by rw [wrap64_small _ (by omega) (by omega)]; omega
                    have z2 : wrap64 ((j0 : Int) + 2) = (j2 : Int) := by rw [wrap64_small _ (by omega) (by omega)]; omega
                    have y0 : 3 * (i : Int) = (j0 : Int) := by omega
                    have y1 : (j0 : Int) + 1 = (j1 : Int) := by omega
                    have y2 : (j0 : Int) + 2 = (j2 : Int) := by omega
                    have x0 : (j0 : Int) < (bs.length : Int) := by omega
                    have x1 : (j1 : Int) < (bs.length : Int) := by omega
                    have x2 : (j2 : Int) < (bs.length : Int) := by omega
                    clear hj0 hj1 hj2 h3i
                    by_cases hkt : i < ts.length
                    · have hkt' : (i : Int) < (ts.length : Int) := by omega
                      rcases HF.out.tra with ⟨_, e0⟩ | ⟨tb, rfl, ht'⟩
                      · rw [e0] at hkt
                        simp at hkt
                      have ca := cell_u8 ht' (i := i) hkt
                      obtain ⟨al, hal⟩ : ∃ r, r = ts.getD i 0 := ⟨_, rfl⟩
                      rw [← hal] at ca
                      obtain ⟨y, hy⟩ : ∃ y, y = ent bs ts i := ⟨_, rfl⟩
                      have HY : Hid (y = want r0 r1 r2 al) := by
                        have := HW.out
                        rw [if_pos hkt, ← hr0, ← hr1, ← hr2, ← hal] at this
                        exact hy.trans this
                      rw [← hy] at HEN
                      clear hr0 hr1 hr2 hal hy ht' hg HW
                      go_wp2_with fail
                      go_quiet ((go_at_call 17; exact (wide_any _ _).mono fun _ _ ⟨he, hm⟩ => ⟨he, _, hm.symm⟩))
                      go_wp2_with fail
                      refine (ent_any (HF.out.drewN _).rd (by have := HM.out; omega) i (by rw [← HM.out]; exact hit) y HEN.out).mono ?_
                      rintro e w' ⟨rfl, rfl⟩
                      have hyy := HY.out
                      unfold want at hyy
                      go_wp2_with fail
                      exact ⟨⟨i + 1, _, by omega, by go_num, rfl⟩, by simp [intOf]; omega⟩
                    · obtain ⟨y, hy⟩ : ∃ y, y = ent bs ts i := ⟨_, rfl⟩
                      have hkt' : ¬ (i : Int) < (ts.length : Int) := by omega
                      have HY : Hid (y = want r0 r1 r2 255) := by
                        have := HW.out
                        rw [if_neg hkt, ← hr0, ← hr1, ← hr2] at this
                        exact hy.trans this
                      rw [← hy] at HEN
                      clear hr0 hr1 hr2 hy hg HW
                      go_wp2_with fail
                      go_quiet ((go_at_call 17; exact (wide_any _ _).mono fun _ _ ⟨he, hm⟩ => ⟨he, _, hm.symm⟩))
                      go_wp2_with fail
                      refine (ent_any (HF.out.drewN _).rd (by have := HM.out; omega) i (by rw [← HM.out]; exact hit) y HEN.out).mono ?_
                      rintro e w' ⟨rfl, rfl⟩
                      have hyy := HY.out
                      unfold want at hyy
                      go_wp2_with fail
                      exact ⟨⟨i + 1, _, by omega, by go_num, rfl⟩, by simp [intOf]; omega⟩
                  · go_wp2_with fail
                    refine (layout_any (HF.out.drewN _).rd).mono ?_
                    rintro e w6 ⟨rfl, q1, rfl⟩
                    go_wp2_with fail
                    refine (tables_any (HF.out.drewN _).rd).mono ?_
                    rintro e w6 ⟨rfl, q2, rfl⟩
                    go_wp2_with fail
                    refine (same_self _ _ _ (HF.out.drewN _).pal.is (by omega)).mono ?_
                    rintro e w6 ⟨rfl, q3, rfl⟩
                    go_wp2_with fail
                    refine (same_self _ _ _ (HF.out.drewN _).tra.is (by omega)).mono ?_
                    rintro e w6 ⟨rfl, q4, rfl⟩
                    go_wp2_with fail
                    go_ret
                    first
                      | exact ⟨rfl, _, rfl⟩
                      | exact ⟨rfl, _, drewN_two _ _ _⟩
            · have hs : scaleOf d = 1 := by simp [scaleOf, h8]
              have b8 : (d == 8) = false := by simp [h8]
              go_wp2_with fail
              refine (scale_any HF.out.rd (scaleOf_bd d).1 (scaleOf_bd d).2).mono ?_
              rw [hs]
              rintro e w' ⟨rfl, rfl⟩
              rcases HF.out.ents with ⟨h3, rfl⟩ | ⟨h3, eb, rfl, he⟩
              · have b3 : (ct == 3) = false := by simp [h3]
                go_wp2_with fail
                refine (entlen_any HF.out.rd).mono ?_
                rintro e w' ⟨rfl, rfl⟩
                go_wp2_with fail
                refine (layout_any HF.out.rd).mono ?_
                rintro e w6 ⟨rfl, q1, rfl⟩
                go_wp2_with fail
                refine (tables_any (HF.out.drewN _).rd).mono ?_
                rintro e w6 ⟨rfl, q2, rfl⟩
                go_wp2_with fail
                refine (same_self _ _ _ (HF.out.drewN _).pal.is (by omega)).mono ?_
                rintro e w6 ⟨rfl, q3, rfl⟩
                go_wp2_with fail
                refine (same_self _ _ _ (HF.out.drewN _).tra.is (by omega)).mono ?_
                rintro e w6 ⟨rfl, q4, rfl⟩
                go_wp2_with fail
                go_ret
                first
                  | exact ⟨rfl, _, rfl⟩
                  | exact ⟨rfl, _, drewN_two _ _ _⟩
              · have b3 : (ct == 3) = true := by simp [h3]
                have HE := Hid.mk he
                clear he
                go_wp2_with fail
                refine (entlen_any HF.out.rd).mono ?_
                rintro e w' ⟨rfl, rfl⟩
                have hq3 : (bs.length : Int) / 3 = ((bs.length / 3 : Nat) : Int) := by omega
                obtain ⟨m, hm⟩ : ∃ m, m = bs.length / 3 := ⟨_, rfl⟩
                have hm4 : m ≤ 4096 := by omega
                rw [← hm] at hq3 ⊢
                have HM := Hid.mk hm
                clear hm
                go_wp2_with fail
                go_loopw [23] (fun t wr => ∃ k q : Nat, k ≤ m ∧ t = .int .i64 k ∧ wr = w.drewN q) (fun t _ => m - (intOf t).toNat)
                case atStart => exact ⟨0, 0, Nat.zero_le _, rfl, rfl⟩
                case round =>
                  obtain ⟨i, q, hi, rfl, rfl⟩ := hrel
                  by_cases hit : i < m
                  · have hit' : (i : Int) < (m : Int) := by omega
                    have h3i : 3 * i + 2 < bs.length := by have := HM.out; omega
                    rcases HF.out.pal with ⟨_, e0⟩ | ⟨g, rfl, hg⟩
                    · rw [e0] at h3i
                      simp at h3i
                    have c0 := cell_u8 hg (i := 3 * i) (by omega)
                    have c1 := cell_u8 hg (i := 3 * i + 1) (by omega)
                    have c2 := cell_u8 hg (i := 3 * i + 2) (by omega)
                    have HW := Hid.mk (ent_want bs ts i HBS.out.1 HBS.out.2)
                    have HEN : Hid (w.cell? ⟨eb, i, none⟩ = some (.int .u64 (ent bs ts i))) := by
                      have he := HE.out
                      rw [← HM.out] at he
                      have := cell_u64 he (i := i) (by rw [entRow_length]; exact hit)
                      rw [entRow_get _ _ _ _ _ hit, if_pos hit] at this
                      exact this
                    obtain ⟨r0, hr0⟩ : ∃ r, r = bs.getD (3 * i) 0 := ⟨_, rfl⟩
                    obtain ⟨r1, hr1⟩ : ∃ r, r = bs.getD (3 * i + 1) 0 := ⟨_, rfl⟩
                    obtain ⟨r2, hr2⟩ : ∃ r, r = bs.getD (3 * i + 2) 0 := ⟨_, rfl⟩
                    rw [← hr0] at c0
                    rw [← hr1] at c1
                    rw [← hr2] at c2
                    obtain ⟨j0, hj0⟩ : ∃ x, x = 3 * i := ⟨_, rfl⟩
                    obtain ⟨j1, hj1⟩ : ∃ x, x = 3 * i + 1 := ⟨_, rfl⟩
                    obtain ⟨j2, hj2⟩ : ∃ x, x = 3 * i + 2 := ⟨_, rfl⟩
                    rw [← hj0] at c0
                    rw [← hj1] at c1
                    rw [← hj2] at c2
                    have z0 : wrap64 (3 * (i : Int)) = (j0 : Int) := by rw [wrap64_small _ (by omega) (by omega)]; omega
                    have z1 : wrap64 ((j0 : Int) + 1) = (j1 : Int) := by rw [wrap64_small _ (by omega) (by omega)]; omega
                    have z2 : wrap64 ((j0 : Int) + 2) = (j2 : Int) := by rw [wrap64_small _ (by omega) (by omega)]; omega
                    have y0 : 3 * (i : Int) = (j0 : Int) := by omega
                    have y1 : (j0 : Int) + 1 = (j1 : Int) := by omega
                    have y2 : (j0 : Int) + 2 = (j2 : Int) := by omega
                    have x0 : (j0 : Int) < (bs.length : Int) := by omega
                    have x1 : (j1 : Int) < (bs.length : Int) := by omega
                    have x2 : (j2 : Int) < (bs.length : Int) := by omega
                    clear hj0 hj1 hj2 h3i
                    by_cases hkt : i < ts.length
                    · have hkt' : (i : Int) < (ts.length : Int) := by omega
                      rcases HF.out.tra with ⟨_, e0⟩ | ⟨tb, rfl, ht'⟩
                      · rw [e0] at hkt
                        simp at hkt
                      have ca := cell_u8 ht' (i := i) hkt
                      obtain ⟨al, hal⟩ : ∃ r, r = ts.getD i 0 := ⟨_, rfl⟩
                      rw [← hal] at ca
                      obtain ⟨y, hy⟩ : ∃ y, y = ent bs ts i := ⟨_, rfl⟩
                      have HY : Hid (y = want r0 r1 r2 al) := by
                        have := HW.out
                        rw [if_pos hkt, ← hr0, ← hr1, ← hr2, ← hal] at this
                        exact hy.trans this
                      rw [← hy] at HEN
                      clear hr0 hr1 hr2 hal hy ht' hg HW
                      go_wp2_with fail
                      go_quiet ((go_at_call 17; exact (wide_any _ _).mono fun _ _ ⟨he, hm⟩ => ⟨he, _, hm.symm⟩))
                      go_wp2_with fail
                      refine (ent_any (HF.out.drewN _).rd (by have := HM.out; omega) i (by rw [← HM.out]; exact hit) y HEN.out).mono ?_
                      rintro e w' ⟨rfl, rfl⟩
                      have hyy := HY.out
                      unfold want at hyy
                      go_wp2_with fail
                      exact ⟨⟨i + 1, _, by omega, by go_num, rfl⟩, by simp [intOf]; omega⟩
                    · obtain ⟨y, hy⟩ : ∃ y, y = ent bs ts i := ⟨_, rfl⟩
                      have hkt' : ¬ (i : Int) < (ts.length : Int) := by omega
                      have HY : Hid (y = want r0 r1 r2 255) := by
                        have := HW.out
                        rw [if_neg hkt, ← hr0, ← hr1, ← hr2] at this
                        exact hy.trans this
                      rw [← hy] at HEN
                      clear hr0 hr1 hr2 hy hg HW
                      go_wp2_with fail
                      go_quiet ((go_at_call 17; exact (wide_any _ _).mono fun _ _ ⟨he, hm⟩ => ⟨he, _, hm.symm⟩))
                      go_wp2_with fail
                      refine (ent_any (HF.out.drewN _).rd (by have := HM.out; omega) i (by rw [← HM.out]; exact hit) y HEN.out).mono ?_
                      rintro e w' ⟨rfl, rfl⟩
                      have hyy := HY.out
                      unfold want at hyy
                      go_wp2_with fail
                      exact ⟨⟨i + 1, _, by omega, by go_num, rfl⟩, by simp [intOf]; omega⟩
                  · go_wp2_with fail
                    refine (layout_any (HF.out.drewN _).rd).mono ?_
                    rintro e w6 ⟨rfl, q1, rfl⟩
                    go_wp2_with fail
                    refine (tables_any (HF.out.drewN _).rd).mono ?_
                    rintro e w6 ⟨rfl, q2, rfl⟩
                    go_wp2_with fail
                    refine (same_self _ _ _ (HF.out.drewN _).pal.is (by omega)).mono ?_
                    rintro e w6 ⟨rfl, q3, rfl⟩
                    go_wp2_with fail
                    refine (same_self _ _ _ (HF.out.drewN _).tra.is (by omega)).mono ?_
                    rintro e w6 ⟨rfl, q4, rfl⟩
                    go_wp2_with fail
                    go_ret
                    first
                      | exact ⟨rfl, _, rfl⟩
                      | exact ⟨rfl, _, drewN_two _ _ _⟩

end Go.Proofs.Qxb6612991aDoorRR
