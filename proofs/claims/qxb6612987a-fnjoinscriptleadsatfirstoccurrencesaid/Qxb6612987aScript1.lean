/-
  Seat Qxb6612987a: FnJoinScriptLeadsAtFirstOccurrence: what holds of the world behind i rounds, and how a round carries it on (no walk here).
-/
import Derived.Test.Qxb6612987aFollowA
import Derived.Test.Qxb6612987aPlain
namespace Go.Proofs.Qxb6612987a
open Go.RowKit Go.Maps Go.MuLone
set_option linter.unusedVariables false

/-- The slice got: the flights of the first i names. -/
def GotIs (w : World) (gb len i : Nat) (ss : Nat → ByteArray) (B : ByteArray → Nat) : Prop :=
  ∃ c : Array Value, w.heap[gb]? = some (.cells c 24) ∧ c.size = len ∧ ∀ j, j < i → c[j]? = some (.pointer (some ⟨B (ss j), 0, none⟩))

/-- Where things lie. -/
structure Lay (w : World) (s mb m1 m2 gb : Nat) : Prop where
  ls : w.heap.size ≤ s
  lm : w.heap.size ≤ mb
  l1 : w.heap.size ≤ m1
  l2 : w.heap.size ≤ m2
  lg : w.heap.size ≤ gb
  n1 : mb ≠ m1
  n2 : mb ≠ m2
  n12 : m1 ≠ m2

def Flying (w w' : World) (ss : Nat → ByteArray) (B : ByteArray → Nat) (i : Nat) : Prop :=
  ∀ k, 0 < cnt ss k i → FlightIs w' (B k) k false false .nilIface (cnt ss k i : Int) ∧ w.heap.size ≤ B k

/-- Behind i rounds. -/
def Inv (w w' : World) (ss : Nat → ByteArray) (len s mb m1 m2 gb i : Nat) : Prop :=
  ∃ B, FlightsIs w' s mb i (listF ss B i) ∧ MapIs w' m1 i (firstF ss i) ∧ MapIs w' m2 i (countF ss i) ∧ Flying w w' ss B i ∧ GotIs w' gb len i ss B ∧ Below w.heap.size w w'

/-- Behind round i's join. -/
def Mid (w w' : World) (ss : Nat → ByteArray) (len s mb m1 m2 gb i b : Nat) : Prop :=
  ∃ B, B (ss i) = b ∧ FlightsIs w' s mb (i + 1) (listF ss B (i + 1)) ∧ MapIs w' m1 i (firstF ss i) ∧ MapIs w' m2 i (countF ss i) ∧ Flying w w' ss B (i + 1) ∧ GotIs w' gb len i ss B ∧ Below w.heap.size w w'

theorem GotIs.kept {w w' : World} {gb len i : Nat} {ss : Nat → ByteArray} {B : ByteArray → Nat} (h : GotIs w gb len i ss B) (hk : w'.heap[gb]? = w.heap[gb]?) : GotIs w' gb len i ss B := by
  obtain ⟨c, h1, h2, h3⟩ := h
  exact ⟨c, hk.trans h1, h2, h3⟩
theorem GotIs.lt {w : World} {gb len i : Nat} {ss : Nat → ByteArray} {B : ByteArray → Nat} (h : GotIs w gb len i ss B) : gb < w.heap.size := by
  obtain ⟨c, h1, h2, h3⟩ := h
  exact (Array.getElem?_eq_some_iff.1 h1).1
theorem GotIs.turn {w : World} {gb len i : Nat} {ss : Nat → ByteArray} {B B' : ByteArray → Nat} (h : GotIs w gb len i ss B) (e : ∀ j, j < i → B' (ss j) = B (ss j)) : GotIs w gb len i ss B' := by
  obtain ⟨c, h1, h2, h3⟩ := h
  exact ⟨c, h1, h2, fun j hj => by rw [e j hj]; exact h3 j hj⟩
theorem GotIs.cell {w : World} {gb len i : Nat} {ss : Nat → ByteArray} {B : ByteArray → Nat} (h : GotIs w gb len i ss B) {j : Nat} (hj : j < i) : w.cell? ⟨gb, j, none⟩ = some (.pointer (some ⟨B (ss j), 0, none⟩)) := by
  obtain ⟨c, h1, h2, h3⟩ := h
  simp [World.cell?, h1, h3 j hj]
theorem GotIs.some {w : World} {gb len i : Nat} {ss : Nat → ByteArray} {B : ByteArray → Nat} (h : GotIs w gb len i ss B) {j : Nat} (hj : j < len) : ∃ v, w.cell? ⟨gb, j, none⟩ = some v := by
  obtain ⟨c, h1, h2, h3⟩ := h
  exact ⟨c[j]'(by omega), by simp [World.cell?, h1]⟩
theorem GotIs.fz {w : World} {gb len i : Nat} {ss : Nat → ByteArray} {B : ByteArray → Nat} (h : GotIs w gb len i ss B) (j : Nat) : w.frozen? ⟨gb, j, none⟩ = false := by
  obtain ⟨c, h1, h2, h3⟩ := h
  simp [World.frozen?, h1]
theorem GotIs.ne_map {w : World} {gb len i m n : Nat} {ss : Nat → ByteArray} {B : ByteArray → Nat} {f : ByteArray → Option Value} (h : GotIs w gb len i ss B) (hm : MapIs w m n f) : gb ≠ m := by
  obtain ⟨c, h1, h2, h3⟩ := h
  obtain ⟨es, q, hq⟩ := hm.isMap
  intro e
  rw [e, hq] at h1
  simp at h1
theorem GotIs.ne_flight {w : World} {gb len i b : Nat} {ss : Nat → ByteArray} {B : ByteArray → Nat} {nm : ByteArray} {st en : Bool} {er : Value} {x : Int} (h : GotIs w gb len i ss B) (F : FlightIs w b nm st en er x) : gb ≠ b := by
  obtain ⟨c, h1, h2, h3⟩ := h
  obtain ⟨sv, cv, hb⟩ := F
  intro e
  rw [e, hb] at h1
  simp [flightObj] at h1
theorem GotIs.ne_flights {w : World} {gb len i s mb n : Nat} {ss : Nat → ByteArray} {B : ByteArray → Nat} {f : ByteArray → Option Value} (h : GotIs w gb len i ss B) (S : FlightsIs w s mb n f) : gb ≠ s := by
  obtain ⟨c, h1, h2, h3⟩ := h
  obtain ⟨⟨rb, cb, hs⟩, hm⟩ := S
  intro e
  rw [e, hs] at h1
  simp [flightsObj] at h1
theorem FlightIs.ne_map {w : World} {b m n : Nat} {nm : ByteArray} {st en : Bool} {er : Value} {x : Int} {f : ByteArray → Option Value} (F : FlightIs w b nm st en er x) (hm : MapIs w m n f) : b ≠ m := by
  obtain ⟨sv, cv, hb⟩ := F
  obtain ⟨es, q, hq⟩ := hm.isMap
  intro e
  rw [e, hq] at hb
  simp [flightObj] at hb
theorem FlightsIs.ne_map {w : World} {s mb k m n : Nat} {g f : ByteArray → Option Value} (S : FlightsIs w s mb k g) (hm : MapIs w m n f) : s ≠ m := by
  obtain ⟨⟨rb, cb, hs⟩, _⟩ := S
  obtain ⟨es, q, hq⟩ := hm.isMap
  intro e
  rw [e, hq] at hs
  simp [flightsObj] at hs
theorem FlightIs.name_inj {w : World} {b : Nat} {nm nm' : ByteArray} {st en st' en' : Bool} {er er' : Value} {x x' : Int} (F : FlightIs w b nm st en er x) (F' : FlightIs w b nm' st' en' er' x') : nm = nm' := by
  obtain ⟨sv, cv, hb⟩ := F
  obtain ⟨sv', cv', hb'⟩ := F'
  rw [hb] at hb'
  simp [flightObj] at hb'
  exact hb'.1

/-- A name that has not come yet: a new flight, led. -/
theorem Inv.join_new {w wr : World} {ss : Nat → ByteArray} {len s mb m1 m2 gb i : Nat} (L : Lay w s mb m1 m2 gb) (I : Inv w wr ss len s mb m1 m2 gb i) (hi : i < maxLen) (hs : (ss i).size ≤ maxLen) (hz : cnt ss (ss i) i = 0) :
    Calls Try.prog 9 #[.pointer (some ⟨s, 0, none⟩), .string (ss i)] wr fun e w' => ∃ b, e = .returned (.tuple #[.pointer (some ⟨b, 0, none⟩), .bool true]) ∧ Mid w w' ss len s mb m1 m2 gb i b ∧ FlightIs w' b (ss i) false false .nilIface 1 := by
  obtain ⟨B, S, M1, M2, Fl, G, hb⟩ := I
  refine zzjoin_of ((Qxb6612987a.join_new S hi (ss i) hs (by simp [listF, hz])).mono ?_)
  rintro e w2 ⟨b, rfl, S2, F2, hg, hbl⟩
  refine ⟨b, true, rfl, b, rfl, ⟨fun k => if k = ss i then b else B k, by simp, ?_, M1.kept (hg.block m1 M1.lt (by simp; exact fun e => L.n1 e.symm)), M2.kept (hg.block m2 M2.lt (by simp; exact fun e => L.n2 e.symm)), ?_, ?_, hb.grown hg hb.size (by simp; exact L.lm)⟩, F2⟩
  · rw [← listF_new]
    exact S2
  · intro k hk
    by_cases e : k = ss i
    · subst e
      simp only [if_pos]
      rw [cnt_same, hz]
      exact ⟨F2, Nat.le_trans hb.size hbl⟩
    · simp only [if_neg e]
      rw [cnt_other ss e] at hk ⊢
      obtain ⟨F, hl⟩ := Fl k hk
      exact ⟨F.kept (hg.block _ F.lt (by simp; exact (FlightIs.ne_s S F).2)), hl⟩
  · refine (G.turn (B' := fun k => if k = ss i then b else B k) fun j hj => ?_).kept (hg.block gb G.lt (by simp; exact G.ne_map S.2))
    have : ss j ≠ ss i := fun e => by
      have := cnt_pos ss i j hj
      rw [e] at this
      omega
    simp [this]

/-- A name that has come before: its flight, held once more. -/
theorem Inv.join_hit {w wr : World} {ss : Nat → ByteArray} {len s mb m1 m2 gb i : Nat} (L : Lay w s mb m1 m2 gb) (I : Inv w wr ss len s mb m1 m2 gb i) (hi : i ≤ 65536) (hs : (ss i).size ≤ maxLen) (hz : 0 < cnt ss (ss i) i) :
    Calls Try.prog 9 #[.pointer (some ⟨s, 0, none⟩), .string (ss i)] wr fun e w' => ∃ b, e = .returned (.tuple #[.pointer (some ⟨b, 0, none⟩), .bool false]) ∧ Mid w w' ss len s mb m1 m2 gb i b := by
  obtain ⟨B, S, M1, M2, Fl, G, hb⟩ := I
  obtain ⟨F, hl⟩ := Fl _ hz
  have hc := cnt_le ss (ss i) i
  refine (follows S (ss i) hs (B (ss i)) (by simp [listF]; omega) F (fun w F => hold_yes_f F)).mono ?_
  rintro e w2 ⟨rfl, S2, F2, hg⟩
  rw [show wrap64 ((cnt ss (ss i) i : Int) + 1) = ((cnt ss (ss i) i + 1 : Nat) : Int) from by unfold wrap64; omega] at F2
  refine ⟨B (ss i), rfl, B, rfl, ⟨S2.1, ?_⟩, M1.kept (hg.block m1 M1.lt (by simp; exact fun e => FlightIs.ne_map F M1 e.symm)), M2.kept (hg.block m2 M2.lt (by simp; exact fun e => FlightIs.ne_map F M2 e.symm)), ?_, G.kept (hg.block gb G.lt (by simp; exact G.ne_flight F)), hb.grown hg hb.size (by simp; exact hl)⟩
  · rw [← listF_old ss B i hz]
    exact S2.2.mono (Nat.le_succ _)
  · intro k hk
    by_cases e : k = ss i
    · subst e
      rw [cnt_same]
      exact ⟨F2, hl⟩
    · rw [cnt_other ss e] at hk ⊢
      obtain ⟨F', hl'⟩ := Fl k hk
      refine ⟨F'.kept (hg.block _ F'.lt ?_), hl'⟩
      intro h
      simp only [Option.some.injEq] at h
      rw [h] at F'
      exact e (F'.name_inj F)

/-- The round's end. -/
theorem Mid.done {w w1 w2 w4 : World} {ss : Nat → ByteArray} {len s mb m1 m2 gb i b : Nat} (L : Lay w s mb m1 m2 gb) (M : Mid w w1 ss len s mb m1 m2 gb i b) (hi : i < len) (hg2 : w1.grownBy w2 (some m1)) (hm1 : MapIs w2 m1 (i + 1) (firstF ss (i + 1)))
    (hg4 : (w2.setCell ⟨gb, i, none⟩ (.pointer (some ⟨b, 0, none⟩))).grownBy w4 (some m2)) (hm2 : MapIs w4 m2 (i + 1) (countF ss (i + 1))) : Inv w w4 ss len s mb m1 m2 gb (i + 1) := by
  obtain ⟨B, rfl, S, M1, M2, Fl, G, hb⟩ := M
  have hg3 := grown_set w2 gb i (.pointer (some ⟨B (ss i), 0, none⟩))
  have l12 := hg2.size
  have l23 := hg3.size
  have hk : ∀ k, k < w1.heap.size → k ≠ m1 → k ≠ m2 → k ≠ gb → w4.heap[k]? = w1.heap[k]? := fun k h1 h2 h3 h4 => by
    rw [hg4.block k (by omega) (by simp; exact h3), hg3.block k (by omega) (by simp; exact h4), hg2.block k h1 (by simp; exact h2)]
  have g1 := G.ne_map M1
  have g2 := G.ne_map M2
  have g3 := G.ne_map S.2
  have g4 := G.ne_flights S
  refine ⟨B, S.kept (hk s S.lt (S.ne_map M1) (S.ne_map M2) (fun e => g4 e.symm)) (hk mb S.2.lt L.n1 L.n2 (fun e => g3 e.symm)), ?_, hm2, ?_, ?_, ?_⟩
  · exact (hm1.kept (hg3.block m1 hm1.lt (by simp; exact fun e => g1 e.symm))).kept (hg4.block m1 (Nat.lt_of_lt_of_le hm1.lt hg3.size) (by simp; exact L.n12))
  · intro k hkk
    obtain ⟨F, hl⟩ := Fl k hkk
    exact ⟨F.kept (hk _ F.lt (F.ne_map M1) (F.ne_map M2) (fun e => G.ne_flight F e.symm)), hl⟩
  · have hgl := G.lt
    obtain ⟨c, h1, h2, h3⟩ := G
    refine ⟨c.setIfInBounds i (.pointer (some ⟨B (ss i), 0, none⟩)), ?_, by simp [h2], fun j hj => ?_⟩
    · rw [hg4.block gb (by omega) (by simp; exact g2), heap_set ((hg2.block gb hgl (by simp; exact g1)).trans h1)]
    · by_cases e : j = i
      · subst e
        rw [Array.getElem?_setIfInBounds_self_of_lt (by omega)]
      · rw [Array.getElem?_setIfInBounds_ne (by omega)]
        exact h3 j (by omega)
  · have hb2 := hb.grown hg2 hb.size (by simp; exact L.l1)
    have hb3 := hb2.grown hg3 hb2.size (by simp; exact L.lg)
    exact hb3.grown hg4 hb3.size (by simp; exact L.l2)

end Go.Proofs.Qxb6612987a
