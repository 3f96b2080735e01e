/-
  Seat Qxb6609425aDoor: the encoder's methods.
-/
import Derived.Test.Qxb6609425aDoorEnc1
import Derived.Deep.RegionWith
namespace Go.Proofs.Qxb6609425aDoor
open Go.RowKit
set_option linter.unusedVariables false
set_option linter.unusedSimpArgs false

/-- The encoder in block E holds the bytes xs. -/
def EncS (w : World) (E base : Nat) (xs : List UInt8) : Prop := ∃ v, w.heap[E]? = some (.cells #[v] 62) ∧ Own w base v xs ∧ base ≤ E

theorem heap_set {w : World} {b : Nat} {c : Array Value} {t : TypeId} (hb : w.heap[b]? = some (.cells c t)) (o : Nat) (v : Value) :
    (w.setCell ⟨b, o, none⟩ v).heap[b]? = some (.cells (c.setIfInBounds o v) t) := by
  simp [World.setCell, Array.getElem?_modify, hb]

/-- A row grows, and its value is stored: the encoder holds it. -/
theorem enc_next {w w' : World} {E base : Nat} {v v' : Value} {xs ys : List UInt8} (hE : w.heap[E]? = some (.cells #[v] 62)) (hO : Own w base v xs) (hbE : base ≤ E) (hO' : Own w' base v' ys) (g : w.grownBy w' v.ownBlock) :
    EncS (w'.setCell ⟨E, 0, none⟩ v') E base ys ∧ Kept w (w'.setCell ⟨E, 0, none⟩ v') E base := by
  have hne : ∀ c f, Obj.cells #[v] 62 ≠ .cells c 5 f := fun c f e => by cases e
  have h1 := (own_block hO g hO' (World.grownBy.refl _ _) E _ hE hne).1
  refine ⟨⟨v', ?_, ?_, hbE⟩, (Kept.grown hO g).trans (Kept.set hbE _ _)⟩
  · rw [heap_set h1]
    rfl
  · refine World.ownsRow.kept hO' (row := some E) ⟨rfl, rfl, rfl, by simp [World.setCell], fun k _ hk => Below.heap_setCell _ _ _ _ (fun e => hk (by rw [e]))⟩ ?_
    obtain ⟨_, h2⟩ := hO'
    rcases h2 with ⟨rfl, _⟩ | ⟨g', cap, cur, rfl, _, hh, _⟩
    · exact .inl rfl
    · refine .inr fun e => ?_
      cases e
      rw [h1] at hh
      cases hh

theorem grow_keeps {w w' : World} {E base : Nat} {v v' : Value} {xs ys : List UInt8} (hO : Own w base v xs) (g : (w.drewN 1).grownBy w' v.ownBlock) (hO' : Own w' base v' ys) (hE : w.heap[E]? = some (.cells #[v] 62)) : w'.heap[E]? = some (.cells #[v] 62) :=
  (own_block (hO.drewN 1) g hO' (World.grownBy.refl _ _) E _ hE (fun c f e => by cases e)).1

theorem EncS.cell {w : World} {E : Nat} {v : Value} (h : w.heap[E]? = some (.cells #[v] 62)) : w.cell? ⟨E, 0, none⟩ = some v := by simp [World.cell?, h]
theorem EncS.fz {w : World} {E : Nat} {v : Value} (h : w.heap[E]? = some (.cells #[v] 62)) : w.frozen? ⟨E, 0, none⟩ = false := by simp [World.frozen?, h]

theorem grown_drewN (w : World) (n : Nat) (row : Option Nat) : w.grownBy (w.drewN n) row := ⟨rfl, rfl, rfl, Nat.le_refl _, fun _ _ _ => rfl⟩

set_option maxHeartbeats 1600000 in
set_option maxRecDepth 100000 in
theorem int_any {w : World} {E base : Nat} {xs : List UInt8} (H : EncS w E base xs) (hb : base ≤ w.heap.size) (hlim : xs.length + 4 ≤ 140737488355328) (x : Int) :
    Calls Tryd.prog 31 #[.pointer (some ⟨E, 0, none⟩), .int .i32 x] w fun e w' => e = .returned (.tuple #[]) ∧ EncS w' E base (xs ++ be4 x) ∧ Kept w w' E base := by
  obtain ⟨v, hE, hO, hbE⟩ := H
  obtain ⟨n, hn⟩ : ∃ n, n = (x % 4294967296).toNat := ⟨_, rfl⟩
  have hn1 : x % 4294967296 = (n : Int) := by omega
  have hn2 : IntKind.u32.wrap x = (n : Int) := by
    have e : IntKind.u32.wrap x = x % 4294967296 := by simp [IntKind.wrap, IntKind.bits, IntKind.signed]
    rw [e, hn1]
  have hn3 : n < 4294967296 := by omega
  have hbe : Hid (be4 x = Lib.beBytes 4 n) := by
    unfold Hid be4
    rw [← hn]
  clear hn
  have hc := EncS.cell hE
  have hf := EncS.fz hE
  have HH : Hid (w.heap[E]? = some (.cells #[v] 62) ∧ Own w base v xs ∧ base ≤ E) := ⟨hE, hO, hbE⟩
  clear hE hO
  go_enter Tryd.func31, Tryd.ntmps31
  go_region_with (first
      | (go_at_call 39; refine (au32 _ base v xs n hn3 (HH.out.2.1.drewN 1) hb hlim).mono ?_; rintro e w1 ⟨g1, cap1, rfl, hO1, hg1⟩; have HG := Hid.mk (And.intro hO1 hg1); clear hO1 hg1; have c1 := EncS.cell (grow_keeps HH.out.2.1 HG.out.2 HG.out.1 HH.out.1); have f1 := EncS.fz (grow_keeps HH.out.2.1 HG.out.2 HG.out.1 HH.out.1)))
  all_goals
    go_end0
    have hN := enc_next HH.out.1 HH.out.2.1 HH.out.2.2 HG.out.1 (grown_trans (grown_drewN w 1 _) HG.out.2)
    rw [← hbe.out] at hN
    exact ⟨rfl, hN.1, hN.2⟩

set_option maxHeartbeats 1600000 in
set_option maxRecDepth 100000 in
theorem long_any {w : World} {E base : Nat} {xs : List UInt8} (H : EncS w E base xs) (hb : base ≤ w.heap.size) (hlim : xs.length + 8 ≤ 140737488355328) (x : Int) :
    Calls Tryd.prog 29 #[.pointer (some ⟨E, 0, none⟩), .int .i64 x] w fun e w' => e = .returned (.tuple #[]) ∧ EncS w' E base (xs ++ be8 x) ∧ Kept w w' E base := by
  obtain ⟨v, hE, hO, hbE⟩ := H
  obtain ⟨n, hn⟩ : ∃ n, n = (x % 18446744073709551616).toNat := ⟨_, rfl⟩
  have hn1 : x % 18446744073709551616 = (n : Int) := by omega
  have hn2 : IntKind.u64.wrap x = (n : Int) := by
    have e : IntKind.u64.wrap x = x % 18446744073709551616 := by simp [IntKind.wrap, IntKind.bits, IntKind.signed]
    rw [e, hn1]
  have hn3 : n < 18446744073709551616 := by omega
  have hbe : Hid (be8 x = Lib.beBytes 8 n) := by
    unfold Hid be8
    rw [← hn]
  clear hn
  have hc := EncS.cell hE
  have hf := EncS.fz hE
  have HH : Hid (w.heap[E]? = some (.cells #[v] 62) ∧ Own w base v xs ∧ base ≤ E) := ⟨hE, hO, hbE⟩
  clear hE hO
  go_enter Tryd.func29, Tryd.ntmps29
  go_region_with (first
      | (go_at_call 35; refine (au64 _ base v xs n hn3 (HH.out.2.1.drewN 1) hb hlim).mono ?_; rintro e w1 ⟨g1, cap1, rfl, hO1, hg1⟩; have HG := Hid.mk (And.intro hO1 hg1); clear hO1 hg1; have c1 := EncS.cell (grow_keeps HH.out.2.1 HG.out.2 HG.out.1 HH.out.1); have f1 := EncS.fz (grow_keeps HH.out.2.1 HG.out.2 HG.out.1 HH.out.1)))
  all_goals
    go_end0
    have hN := enc_next HH.out.1 HH.out.2.1 HH.out.2.2 HG.out.1 (grown_trans (grown_drewN w 1 _) HG.out.2)
    rw [← hbe.out] at hN
    exact ⟨rfl, hN.1, hN.2⟩

end Go.Proofs.Qxb6609425aDoor
