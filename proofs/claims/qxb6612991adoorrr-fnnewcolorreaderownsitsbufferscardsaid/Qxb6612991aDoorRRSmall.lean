/-
  Seat Qxb6612991aDoorRR: channels, bitsPerPixel, rowBytes, pixel8, wide: contracts.
-/
import Derived.Test.Qxb6612991aDoorRRBase
import Derived.Test.Qxb6612991aDoorRRSamples
import Derived.Deep.RegionHeld3
import Derived.Laws.BitsAllLaws
namespace Go.Proofs.Qxb6612991aDoorRR
open Go.RowKit
set_option linter.unusedVariables false
set_option linter.unusedSimpArgs false

/-- The table colorTypes holds ch samples for colour type ct: in W and in every world that leaves the map's block alone. -/
def ChIs (W : World) (ct ch : Int) : Prop :=
  ∃ bm dv, W.cell? ⟨0, 0, none⟩ = some (.map (some bm)) ∧ bm < W.heap.size ∧ ∀ w', w'.heap[bm]? = W.heap[bm]? → (Instr.lookup 61 (.map (some bm)) (.int .u8 ct) false).run Tryd.prog w' = .ok (.agg #[.int .i64 ch, dv]) w'

theorem ChIs.at' {W w : World} {ct ch : Int} (C : ChIs W ct ch) (hb : Below W.heap.size W w) :
    ∃ bm dv, w.cell? ⟨0, 0, none⟩ = some (.map (some bm)) ∧ (∀ n, (Instr.lookup 61 (.map (some bm)) (.int .u8 ct) false).run Tryd.prog (w.drewN n) = .ok (.agg #[.int .i64 ch, dv]) (w.drewN n)) := by
  obtain ⟨bm, dv, h1, h2, h3⟩ := C
  refine ⟨bm, dv, ?_, fun n => h3 _ (hb.block bm h2)⟩
  rw [← h1]
  exact hb.cell (p := ⟨0, 0, none⟩) (World.block_lt_of_cell? _ _ h1)

theorem run_field60 (ch : Int) (dv : Value) (w : World) : (Instr.field 60 (.agg #[.int .i64 ch, dv]) 0).run Tryd.prog w = .ok (.int .i64 ch) w := by kernel_rfl

theorem channels_any {W w : World} {ct ch : Int} (C : ChIs W ct ch) (hb : Below W.heap.size W w) :
    Calls Tryd.prog 26 #[.int .u8 ct] w fun e w' => e = .returned (.int .i64 ch) ∧ w = w' := by
  obtain ⟨bm, dv, h1, h2⟩ := C.at' hb
  have h3 : (Instr.lookup 61 (.map (some bm)) (.int .u8 ct) false).run Tryd.prog w = .ok (.agg #[.int .i64 ch, dv]) w := h2 0
  have h4 := run_field60
  clear h2 C hb
  go_enter Tryd.func26, Tryd.ntmps26
  go_wp2
  go_ret
  exact ⟨rfl, rfl⟩

theorem quiet_same {P : Program} {f : FuncId} {args : Array Value} {w : World} {n : Nat} {v : Value}
    (h : Calls P f args (w.drewN n) fun e w' => e = .returned v ∧ w.drewN n = w') : Calls P f args (w.drewN n) fun e w'' => e = .returned v ∧ ∃ m, w'' = w.drewN m :=
  h.mono fun _ _ ⟨he, hm⟩ => ⟨he, n, hm.symm⟩

theorem below_drewN {B : Nat} {W w : World} (h : Below B W w) (n : Nat) : Below B W (w.drewN n) := ⟨h.os, h.tape, h.output, h.size, h.block⟩

/-- A header, as a struct's cells. -/
def hdr (wd ht d ct : Int) : Array Value := #[.int .i64 wd, .int .i64 ht, .int .i64 d, .int .u8 ct, .int .u8 0]

theorem bits_any {W w : World} {ct ch : Int} (C : ChIs W ct ch) (hb : Below W.heap.size W w) (wd ht d : Int) :
    Calls Tryd.prog 25 #[.agg #[.int .i64 wd, .int .i64 ht, .int .i64 d, .int .u8 ct, .int .u8 0]] w fun e w' => e = .returned (.int .i64 (wrap64 (ch * d))) ∧ ∃ o n, w' = (w.alloc o).drewN n := by
  have HC := Hid.mk C
  have HB : Hid (∀ o, Below W.heap.size W (w.alloc o)) := fun o => hb.alloc hb.size o
  clear C hb
  go_enter Tryd.func25, Tryd.ntmps25
  go_wp2_with fail
  go_quiet ((go_at_call 26; exact quiet_same (channels_any HC.out (below_drewN (HB.out _) _))))
  go_wp2
  go_ret
  exact ⟨rfl, _, _, rfl⟩

theorem row_any {W w : World} {ct ch : Int} (C : ChIs W ct ch) (hb : Below W.heap.size W w) (wd ht d x : Int) :
    Calls Tryd.prog 22 #[.agg #[.int .i64 wd, .int .i64 ht, .int .i64 d, .int .u8 ct, .int .u8 0], .int .i64 x] w fun e w' => e = .returned (.int .i64 (wrap64 ((wrap64 (wrap64 (x * wrap64 (ch * d)) + 7)).tdiv 8))) ∧ ∃ o1 o2 n, w' = ((w.alloc o1).alloc o2).drewN n := by
  have HC := Hid.mk C
  have HB : Hid (∀ o, Below W.heap.size W (w.alloc o)) := fun o => hb.alloc hb.size o
  clear C hb
  go_enter Tryd.func22, Tryd.ntmps22
  go_wp2_with fail
  refine (bits_any HC.out (HB.out _) wd ht d).mono ?_
  rintro e w' ⟨rfl, o, n, rfl⟩
  obtain ⟨m, hm⟩ : ∃ m, m = wrap64 (ch * d) := ⟨_, rfl⟩
  rw [← hm]
  have HM := Hid.mk hm
  clear hm
  go_wp2
  go_ret
  exact ⟨by rw [← HM.out]; rfl, _, _, _, rfl⟩

/-- A byte widened to 16 bits. -/
def wideF (y : Int) : Int := IntKind.u64.wrap (IntKind.u64.wrap y * 257)
/-- 'pixel8'. -/
def px8 (r g b a : Int) : Int :=
  IntKind.u64.wrap (bits .or .u64 (bits .or .u64 (bits .or .u64 (IntKind.u64.wrap (IntKind.u64.wrap r * 281474976710656)) (IntKind.u64.wrap (IntKind.u64.wrap g * 4294967296))) (IntKind.u64.wrap (IntKind.u64.wrap b * 65536))) (IntKind.u64.wrap a) * 257)
/-- What readerIsFresh wants there. -/
def want (r g b a : Int) : Int :=
  bits .or .u64 (bits .or .u64 (bits .or .u64 (IntKind.u64.wrap (wideF r * 281474976710656)) (IntKind.u64.wrap (wideF g * 4294967296))) (IntKind.u64.wrap (wideF b * 65536))) (wideF a)

theorem wide_any (w : World) (y : Int) : Calls Tryd.prog 17 #[.int .u8 y] w fun e w' => e = .returned (.int .u64 (wideF y)) ∧ w = w' := by
  go_enter Tryd.func17, Tryd.ntmps17
  go_wp2
  go_ret
  exact ⟨rfl, rfl⟩

theorem pixel8_any (w : World) (r g b a : Int) : Calls Tryd.prog 24 #[.int .u8 r, .int .u8 g, .int .u8 b, .int .u8 a] w fun e w' => e = .returned (.int .u64 (px8 r g b a)) ∧ w = w' := by
  go_enter Tryd.func24, Tryd.ntmps24
  go_wp2
  go_ret
  exact ⟨rfl, rfl⟩

theorem nat_or_add (x y k : Nat) (hx : x % 2 ^ k = 0) (hy : y < 2 ^ k) : x ||| y = x + y := by
  obtain ⟨q, hq⟩ := Nat.dvd_of_mod_eq_zero hx
  rw [hq]
  exact (Nat.two_pow_add_eq_or_of_lt hy q).symm

theorem or_add (x y : Int) (k : Nat) (hx0 : 0 ≤ x) (hx1 : x < 18446744073709551616) (hx : x.toNat % 2 ^ k = 0) (hy0 : 0 ≤ y) (hy1 : y < 18446744073709551616) (hy : y.toNat < 2 ^ k) : bits .or .u64 x y = x + y := by
  rw [u64_or x y hx0 hx1 hy0 hy1, nat_or_add _ _ k hx hy]
  omega

theorem wrap_u64 (x : Int) (h0 : 0 ≤ x) (h1 : x < 18446744073709551616) : IntKind.u64.wrap x = x := by
  have e : IntKind.u64.wrap x = x % 18446744073709551616 := by simp [IntKind.wrap, IntKind.bits, IntKind.signed]
  rw [e]
  omega

theorem want_eq (r g b a : Int) (r0 : 0 ≤ r) (r1 : r ≤ 255) (g0 : 0 ≤ g) (g1 : g ≤ 255) (b0 : 0 ≤ b) (b1 : b ≤ 255) (a0 : 0 ≤ a) (a1 : a ≤ 255) : px8 r g b a = want r g b a := by
  have w1 : ∀ y : Int, 0 ≤ y → y ≤ 255 → wideF y = y * 257 := fun y h0 h1 => by
    unfold wideF
    rw [wrap_u64 y h0 (by omega), wrap_u64 _ (by omega) (by omega)]
  have e1 : want r g b a = r * 257 * 281474976710656 + g * 257 * 4294967296 + b * 257 * 65536 + a * 257 := by
    unfold want
    rw [w1 r r0 r1, w1 g g0 g1, w1 b b0 b1, w1 a a0 a1]
    rw [wrap_u64 (r * 257 * 281474976710656) (by omega) (by omega), wrap_u64 (g * 257 * 4294967296) (by omega) (by omega), wrap_u64 (b * 257 * 65536) (by omega) (by omega)]
    rw [or_add _ (g * 257 * 4294967296) 48 (by omega) (by omega) (by omega) (by omega) (by omega) (by omega)]
    rw [or_add _ (b * 257 * 65536) 32 (by omega) (by omega) (by omega) (by omega) (by omega) (by omega)]
    rw [or_add _ (a * 257) 16 (by omega) (by omega) (by omega) (by omega) (by omega) (by omega)]
  have e2 : px8 r g b a = (r * 281474976710656 + g * 4294967296 + b * 65536 + a) * 257 := by
    unfold px8
    rw [wrap_u64 r r0 (by omega), wrap_u64 g g0 (by omega), wrap_u64 b b0 (by omega), wrap_u64 a a0 (by omega)]
    rw [wrap_u64 (r * 281474976710656) (by omega) (by omega), wrap_u64 (g * 4294967296) (by omega) (by omega), wrap_u64 (b * 65536) (by omega) (by omega)]
    rw [or_add _ (g * 4294967296) 48 (by omega) (by omega) (by omega) (by omega) (by omega) (by omega)]
    rw [or_add _ (b * 65536) 32 (by omega) (by omega) (by omega) (by omega) (by omega) (by omega)]
    rw [or_add _ a 16 (by omega) (by omega) (by omega) (by omega) (by omega) (by omega)]
    rw [wrap_u64 _ (by omega) (by omega)]
  rw [e1, e2]
  omega

end Go.Proofs.Qxb6612991aDoorRR
