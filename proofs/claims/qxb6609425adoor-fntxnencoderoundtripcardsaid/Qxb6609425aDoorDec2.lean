/-
  Seat Qxb6609425aDoor: the decoder: Int, String, StringBytes, readLong, Err, Len, NewDecoder.
-/
import Derived.Test.Qxb6609425aDoorDec1
import Derived.Laws.IdiomStrings
namespace Go.Proofs.Qxb6609425aDoor
open Go.RowKit
set_option linter.unusedVariables false
set_option linter.unusedSimpArgs false

theorem grown_below {w w' : World} (h : Below w.heap.size w w') (row : Option Nat) : w.grownBy w' row := ⟨h.os, h.tape, h.output, h.size, fun k hk _ => h.block k hk⟩

theorem DecS.below {w w' : World} {D : Nat} {r : List UInt8} (H : DecS w D r) (h : Below w.heap.size w w') : DecS w' D r := by
  obtain ⟨g, o, c, arr, fr, h1, h2, h3, h4⟩ := H
  exact ⟨g, o, c, arr, fr, (h.block D (Array.getElem?_eq_some_iff.1 h1).1).trans h1, (h.block g (Array.getElem?_eq_some_iff.1 h2).1).trans h2, h3, h4⟩

theorem four (x : Int) : ∃ b0 b1 b2 b3, be4 x = [b0, b1, b2, b3] := by
  have h : (be4 x).length = 4 := Lib.beBytes_length _ _
  match hb : be4 x, h with
  | [b0, b1, b2, b3], _ => exact ⟨b0, b1, b2, b3, rfl⟩

theorem be4_val (x : Int) (h0 : -2147483648 ≤ x) (h1 : x < 2147483648) : IntKind.i32.wrap ((Lib.beNat (be4 x) : Nat) : Int) = x := by
  unfold be4
  rw [Lib.beNat_beBytes 4 _ (by omega)]
  simp only [IntKind.wrap, IntKind.bits, IntKind.signed]
  simp
  omega

set_option maxHeartbeats 1600000 in
theorem dint_any {w : World} {D : Nat} (x : Int) (rest : List UInt8) (H : DecS w D (be4 x ++ rest)) (h0 : -2147483648 ≤ x) (h1 : x < 2147483648) (hl : 4 + rest.length ≤ 140737488355328) :
    Calls Tryd.prog 21 #[.pointer (some ⟨D, 0, none⟩)] w fun e w' => e = .returned (.int .i32 x) ∧ DecS w' D rest ∧ w.grownBy w' (some D) := by
  have hq := eql23
  obtain ⟨b0, b1, b2, b3, hb⟩ := four x
  have hv := be4_val x h0 h1
  rw [hb] at hv H
  have HT := Hid.mk (take_any [b0, b1, b2, b3] rest H 4 rfl hl)
  clear H hb
  obtain ⟨n, hn⟩ : ∃ n, n = Lib.beNat [b0, b1, b2, b3] := ⟨_, rfl⟩
  rw [← hn] at hv
  have hv2 : wrap32 (n : Int) = x := by
    rw [← hv]
    simp only [IntKind.wrap, IntKind.bits, IntKind.signed, wrap32]
    simp
    split <;> omega
  go_enter Tryd.func21, Tryd.ntmps21
  go_wp2_with fail
  refine HT.out.mono ?_
  rintro e w1 ⟨g, o, rfl, hB, hD, hG⟩
  have HD := Hid.mk (And.intro hD hG)
  have HB := Hid.mk hB
  clear hD hG hB
  go_wp2_with fail
  refine (u32_any w1 g o b0 b1 b2 b3 (HB.out.cell 0 (by simp)) (HB.out.cell 1 (by simp)) (HB.out.cell 2 (by simp)) (HB.out.cell 3 (by simp))).mono ?_
  rw [← hn]
  rintro e w2 ⟨rfl, hb2⟩
  have H2 := Hid.mk hb2
  clear hb2 hn
  go_wp2_with fail
  go_ret
  exact ⟨rfl, HD.out.1.below H2.out, grown_trans HD.out.2 (grown_below H2.out _)⟩

/-- What the decoder gave back: bytes of the payload, or nil. -/
def Got (w : World) (D : Nat) (v : Value) (o : Option (List UInt8)) : Prop :=
  (v = .slice none 0 0 ∧ o = none) ∨ ∃ g a bs, v = .slice (some ⟨g, a, none⟩) bs.length bs.length ∧ o = some bs ∧ BytesAt w D g a bs
theorem Got.kept {w w' : World} {D : Nat} {v : Value} {o : Option (List UInt8)} (G : Got w D v o) (h : w.grownBy w' (some D)) : Got w' D v o := by
  rcases G with h1 | ⟨g, a, bs, h1, h2, h3⟩
  · exact .inl h1
  · exact .inr ⟨g, a, bs, h1, h2, h3.kept h⟩
theorem Got.is {w : World} {D : Nat} {v : Value} {o : Option (List UInt8)} (G : Got w D v o) : BytesIn w v o := by
  rcases G with h1 | ⟨g, a, bs, h1, h2, h3⟩
  · exact .inl h1
  · refine .inr ⟨⟨g, a, none⟩, bs.length, bs, h1, h2, fun i hi => ?_⟩
    rw [Addr.add_lit]
    exact h3.cell i hi

set_option maxHeartbeats 1600000 in
theorem sbytes_any {w : World} {D : Nat} (o : Option (List UInt8)) (rest : List UInt8) (H : DecS w D (encBuf o ++ rest)) (ho : wBuf o ≤ 1048576) (hl : 4 + wBuf o + rest.length ≤ 140737488355328) :
    Calls Tryd.prog 23 #[.pointer (some ⟨D, 0, none⟩)] w fun e w' => ∃ v, e = .returned v ∧ Got w' D v o ∧ DecS w' D rest ∧ w.grownBy w' (some D) := by
  cases o with
  | none =>
    have HI := Hid.mk (dint_any (-1) rest H (by decide) (by decide) (by omega))
    clear H
    go_enter Tryd.func23, Tryd.ntmps23
    go_wp2_with fail
    refine HI.out.mono ?_
    rintro e w1 ⟨rfl, hD, hG⟩
    have HD := Hid.mk (And.intro hD hG)
    clear hD hG
    go_wp2_with fail
    go_ret
    exact ⟨_, rfl, .inl ⟨rfl, rfl⟩, HD.out.1, HD.out.2⟩
  | some bs =>
    have hbs : bs.length ≤ 1048576 := ho
    have hl' : 4 + bs.length + rest.length ≤ 140737488355328 := hl
    have H' : DecS w D (be4 (bs.length : Int) ++ (bs ++ rest)) := by
      have h := H
      unfold encBuf at h
      rw [List.append_assoc] at h
      exact h
    have HI := Hid.mk (dint_any (bs.length : Int) (bs ++ rest) H' (by omega) (by omega) (by rw [List.length_append]; omega))
    have hm1 : ((bs.length : Int) == -1) = false := by
      rw [beq_eq_false_iff_ne]
      omega
    clear H H'
    go_enter Tryd.func23, Tryd.ntmps23
    go_wp2_with fail
    refine HI.out.mono ?_
    rintro e w1 ⟨rfl, hD, hG⟩
    have HD := Hid.mk (And.intro hD hG)
    clear hD hG
    go_wp2_with fail
    refine (take_any bs rest HD.out.1 bs.length rfl (by omega)).mono ?_
    rintro e w2 ⟨g, a, rfl, hB, hD, hG⟩
    have H2 := Hid.mk (And.intro hB (And.intro hD hG))
    clear hB hD hG
    go_wp2_with fail
    go_ret
    exact ⟨_, rfl, .inr ⟨g, a, bs, rfl, rfl, H2.out.1⟩, H2.out.2.1, grown_trans HD.out.2 H2.out.2.2⟩

set_option maxHeartbeats 1600000 in
theorem dstr_any {w : World} {D : Nat} (s : ByteArray) (rest : List UInt8) (H : DecS w D (encStr s ++ rest)) (ho : s.size ≤ 1048576) (hl : 4 + s.size + rest.length ≤ 140737488355328) :
    Calls Tryd.prog 22 #[.pointer (some ⟨D, 0, none⟩)] w fun e w' => e = .returned (.string s) ∧ DecS w' D rest ∧ w.grownBy w' (some D) := by
  have hsz : s.data.toList.length = s.size := Array.length_toList
  have H' : DecS w D (be4 (s.size : Int) ++ (s.data.toList ++ rest)) := by
    have h := H
    unfold encStr at h
    rw [List.append_assoc] at h
    exact h
  have HI := Hid.mk (dint_any (s.size : Int) (s.data.toList ++ rest) H' (by omega) (by omega) (by rw [List.length_append, hsz]; omega))
  have hm1 : ((s.size : Int) == -1) = false := by
    rw [beq_eq_false_iff_ne]
    omega
  clear H H'
  go_enter Tryd.func22, Tryd.ntmps22
  go_wp2_with fail
  refine HI.out.mono ?_
  rintro e w1 ⟨rfl, hD, hG⟩
  have HD := Hid.mk (And.intro hD hG)
  clear hD hG
  go_wp2_with fail
  refine (take_any s.data.toList rest HD.out.1 s.size hsz (by omega)).mono ?_
  rintro e w2 ⟨g, a, rfl, hB, hD, hG⟩
  have hcv := run_convert_bytes_back (P := Tryd.prog) w2 23 9 5 ⟨g, a, none⟩ s.size s.data.toList Tryd.underlying23 Tryd.underlying5 Tryd.underlying9 (fun j hj => by
    have h := hB.cell j hj
    rw [Addr.add_lit]
    rw [h]
    unfold bv
    simp [List.getElem?_eq_getElem hj])
  rw [hsz] at hcv
  have H2 := Hid.mk (And.intro hD hG)
  clear hB hD hG
  go_wp2_with fail
  go_ret
  refine ⟨?_, H2.out.1, grown_trans HD.out.2 H2.out.2⟩
  first
    | rfl
    | simp

theorem nat_or_add (x y k : Nat) (hx : x % 2 ^ k = 0) (hy : y < 2 ^ k) : x ||| y = x + y := by
  obtain ⟨q, hq⟩ := Nat.dvd_of_mod_eq_zero hx
  rw [hq]
  exact (Nat.two_pow_add_eq_or_of_lt hy q).symm
theorem or_hi_lo (hi lo : Nat) (h1 : hi < 4294967296) (h2 : lo < 4294967296) : bits .or .u64 ((hi : Int) * 4294967296) (lo : Int) = ((hi * 4294967296 + lo : Nat) : Int) := by
  rw [u64_or _ _ (by omega) (by omega) (by omega) (by omega)]
  have e1 : ((hi : Int) * 4294967296).toNat = hi * 4294967296 := by omega
  rw [e1, Int.toNat_natCast, nat_or_add (hi * 4294967296) lo 32 (Nat.mul_mod_left hi 4294967296) h2]

theorem be8_split (N : Nat) (h : N < 18446744073709551616) : Lib.beBytes 8 N = Lib.beBytes 4 (N / 4294967296) ++ Lib.beBytes 4 (N % 4294967296) := by
  have e0 : N % 4294967296 % 256 = N % 256 := by omega
  have e1 : N % 4294967296 / 256 % 256 = N / 256 % 256 := by omega
  have e2 : N % 4294967296 / 256 / 256 % 256 = N / 256 / 256 % 256 := by omega
  have e3 : N % 4294967296 / 256 / 256 / 256 % 256 = N / 256 / 256 / 256 % 256 := by omega
  have f0 : N / 4294967296 = N / 256 / 256 / 256 / 256 := by omega
  simp only [Lib.beBytes, Lib.leBytes, List.reverse_cons, List.reverse_nil, List.nil_append, List.cons_append, f0]
  simp only [e0, e1, e2, e3]

/-- The 32-bit number that has these bits. -/
def sig (n : Nat) : Int := if n < 2147483648 then (n : Int) else (n : Int) - 4294967296
theorem sig_be4 (n : Nat) (h : n < 4294967296) : be4 (sig n) = Lib.beBytes 4 n := by
  unfold be4 sig
  congr 1
  split <;> omega
theorem sig_bd (n : Nat) (h : n < 4294967296) : -2147483648 ≤ sig n ∧ sig n < 2147483648 := by
  unfold sig
  split <;> omega
theorem sig_mod (n : Nat) (h : n < 4294967296) : sig n % 4294967296 = (n : Int) := by
  unfold sig
  split <;> omega

set_option maxHeartbeats 1600000 in
theorem dlong_any {w : World} {D : Nat} (x : Int) (rest : List UInt8) (H : DecS w D (be8 x ++ rest)) (hl : 8 + rest.length ≤ 140737488355328) :
    Calls Tryd.prog 11 #[.pointer (some ⟨D, 0, none⟩)] w fun e w' => e = .returned (.int .u64 (x % 18446744073709551616)) ∧ DecS w' D rest ∧ w.grownBy w' (some D) := by
  obtain ⟨N, hN⟩ : ∃ N, N = (x % 18446744073709551616).toNat := ⟨_, rfl⟩
  have hN1 : x % 18446744073709551616 = (N : Int) := by omega
  have hN2 : N < 18446744073709551616 := by omega
  obtain ⟨hi, hhi⟩ : ∃ hi, hi = N / 4294967296 := ⟨_, rfl⟩
  obtain ⟨lo, hlo⟩ : ∃ lo, lo = N % 4294967296 := ⟨_, rfl⟩
  have hi1 : hi < 4294967296 := by omega
  have lo1 : lo < 4294967296 := by omega
  have H' : DecS w D (be4 (sig hi) ++ (be4 (sig lo) ++ rest)) := by
    rw [sig_be4 hi hi1, sig_be4 lo lo1, ← List.append_assoc, hhi, hlo, ← be8_split N hN2, hN]
    exact H
  have HI := Hid.mk (dint_any (sig hi) (be4 (sig lo) ++ rest) H' (sig_bd hi hi1).1 (sig_bd hi hi1).2 (by rw [List.length_append, show (be4 (sig lo)).length = 4 from Lib.beBytes_length _ _]; omega))
  have m1 := sig_mod hi hi1
  have m2 := sig_mod lo lo1
  have u1 : IntKind.u32.wrap (sig hi) = (hi : Int) := by
    rw [← m1]
    simp [IntKind.wrap, IntKind.bits, IntKind.signed]
  have u2 : IntKind.u32.wrap (sig lo) = (lo : Int) := by
    rw [← m2]
    simp [IntKind.wrap, IntKind.bits, IntKind.signed]
  have HS := Hid.mk (And.intro (sig_bd lo lo1).1 (sig_bd lo lo1).2)
  have HV : Hid (bits .or .u64 ((hi : Int) * 4294967296) (lo : Int) = x % 18446744073709551616) := by
    unfold Hid
    rw [or_hi_lo hi lo hi1 lo1, hN1]
    congr 1
    omega
  clear H H' hN hhi hlo hN1
  generalize sig hi = y at HI m1 u1
  generalize hz : sig lo = z at HI m2 u2 HS
  clear hz
  go_enter Tryd.func11, Tryd.ntmps11
  go_wp2_with fail
  refine HI.out.mono ?_
  rintro e w1 ⟨rfl, hD, hG⟩
  have HD := Hid.mk (And.intro hD hG)
  clear hD hG
  go_wp2_with fail
  refine (dint_any z rest HD.out.1 HS.out.1 HS.out.2 (by omega)).mono ?_
  rintro e w2 ⟨rfl, hD, hG⟩
  have H2 := Hid.mk (And.intro hD (grown_trans HD.out.2 hG))
  clear hD hG
  go_wp2_with fail
  go_ret
  exact ⟨by rw [← HV.out]; rfl, H2.out.1, H2.out.2⟩

theorem err_any {w : World} {D : Nat} {rest : List UInt8} (H : DecS w D rest) : Calls Tryd.prog 16 #[.pointer (some ⟨D, 0, none⟩)] w fun e w' => e = .returned .nilIface ∧ w = w' := by
  obtain ⟨g, o, c, arr, fr, hD, _⟩ := H
  have c1 : w.cell? ⟨D, 1, none⟩ = some .nilIface := by simp [World.cell?, hD]
  clear hD
  go_enter Tryd.func16, Tryd.ntmps16
  go_wp2
  go_ret
  exact ⟨rfl, rfl⟩

theorem len_any {w : World} {D : Nat} {rest : List UInt8} (H : DecS w D rest) : Calls Tryd.prog 17 #[.pointer (some ⟨D, 0, none⟩)] w fun e w' => e = .returned (.int .i64 (rest.length : Int)) ∧ w = w' := by
  obtain ⟨g, o, c, arr, fr, hD, _⟩ := H
  have c1 : w.cell? ⟨D, 0, none⟩ = some (.slice (some ⟨g, o, none⟩) rest.length c) := by simp [World.cell?, hD]
  clear hD
  go_enter Tryd.func17, Tryd.ntmps17
  go_wp2
  go_ret
  exact ⟨rfl, rfl⟩

theorem dtake_any {w : World} {D : Nat} (b : UInt8) (rest : List UInt8) (H : DecS w D ([b] ++ rest)) (hl : 1 + rest.length ≤ 140737488355328) :
    Calls Tryd.prog 14 #[.pointer (some ⟨D, 0, none⟩), .int .i64 1] w fun e w' => ∃ g o, e = .returned (.slice (some ⟨g, o, none⟩) 1 1) ∧ BytesAt w' D g o [b] ∧ DecS w' D rest ∧ w.grownBy w' (some D) := by
  have HT := Hid.mk (take_any [b] rest H 1 rfl hl)
  clear H
  go_enter Tryd.func14, Tryd.ntmps14
  go_wp2_with fail
  refine HT.out.mono ?_
  rintro e w1 ⟨g, o, rfl, hB, hD, hG⟩
  have H2 := Hid.mk (And.intro hB (And.intro hD hG))
  clear hB hD hG
  go_wp2_with fail
  go_ret
  exact ⟨g, o, rfl, H2.out.1, H2.out.2.1, H2.out.2.2⟩

end Go.Proofs.Qxb6609425aDoor
