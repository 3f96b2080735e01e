/-
  Seat Qxb6609425aDoor: toTxn: the walk.
-/
import Derived.Test.Qxb6609425aDoorToC
import Derived.Laws.Rows
namespace Go.Proofs.Qxb6609425aDoor
open Go.RowKit
set_option linter.unusedVariables false
set_option linter.unusedSimpArgs false

/-- The argument's box and the result's cell stand. -/
structure Boxed (w wr : World) (b r : Nat) (C Z : Array Value) : Prop where
  below : Below w.heap.size w wr
  box : wr.heap[b]? = some (.cells C 28)
  res : wr.heap[r]? = some (.cells Z 40)
  low : w.heap.size ≤ r
theorem Boxed.kept {w wr wr' : World} {b r : Nat} {C Z : Array Value} (B : Boxed w wr b r C Z) (h : Below wr.heap.size wr wr') : Boxed w wr' b r C Z :=
  ⟨B.below.trans (h.mono B.below.size), (h.block b (Array.getElem?_eq_some_iff.1 B.box).1).trans B.box, (h.block r (Array.getElem?_eq_some_iff.1 B.res).1).trans B.res, B.low⟩

theorem FillO.storeC {W w1 wr : World} {g : Nat} {ts : List Tx} {k : Nat} (I : FillO W w1 wr g ts k) (hk : k < ts.length) (h : Head) (a1 a2 a3 a4 a5 : Option Addr) (l1 l2 l3 l4 l5 c1 c2 c3 c4 c5 : Nat) :
    (storeCells ⟨g, k * 14, none⟩ (cells h (.slice a1 l1 c1) (.slice a2 l2 c2) (.slice a3 l3 c3) (.slice a4 l4 c4) (.slice a5 l5 c5)).toList).run Tryd.prog wr = .ok () (wsetN wr g (k * 14) (cells h (.slice a1 l1 c1) (.slice a2 l2 c2) (.slice a3 l3 c3) (.slice a4 l4 c4) (.slice a5 l5 c5)).toList) := by
  rw [wsetN_eq]
  have := run_storeCells_cells (P := Tryd.prog) g (k * 14) (cells h (.slice a1 l1 c1) (.slice a2 l2 c2) (.slice a3 l3 c3) (.slice a4 l4 c4) (.slice a5 l5 c5)).toList 0 wr (fun j hj => by
      have hj' : j < 14 := hj
      obtain ⟨⟨v, hv⟩, hf⟩ := I.spot (k * 14 + j) (by omega)
      rw [Nat.add_zero, hv]
      rfl) (fun j hj => by
      have hj' : j < 14 := hj
      obtain ⟨⟨v, hv⟩, hf⟩ := I.spot (k * 14 + j) (by omega)
      rw [Nat.add_zero]
      exact hf) (by simp [cells, Value.oneCell'])
  rw [Nat.add_zero] at this
  exact this

theorem to_end {W w wC : World} {b r : Nat} {C : Array Value} {av ov : Value} {acl : List Acl} {ops : List Tx} (B : Boxed w wC b r C #[.int .u64 0, .int .i64 0, .int .i32 0, .string ⟨#[]⟩, .slice none 0 0, .slice none 0 0, .int .i32 0, .int .i64 0, .int .i32 0, .slice none 0 0, .slice none 0 0, .bool false, .slice none 0 0, .int .i64 0]) (hA : AclRow wC av acl) (hO : OpRow W wC ov ops) (hne : ∀ g l c, ov = .slice (some ⟨g, 0, none⟩) l c → g ≠ r) (L : List Value) (hL : L.length = 14) :
    (AclRow (wsetN wC r 0 L) av acl ∧ OpRow W (wsetN wC r 0 L) ov ops ∧ Below w.heap.size w (wsetN wC r 0 L)) ∧ (wsetN wC r 0 L).heap[r]? = some (.cells L.toArray 40) := by
  have keep : ∀ (bb : Nat) (arr : Array Value), wC.heap[bb]? = some (.cells arr 64) → (wsetN wC r 0 L).heap[bb]? = some (.cells arr 64) := fun bb arr hh => by
    refine (wsetN_other _ _ _ _ _ ?_).trans hh
    rintro rfl
    have h1 := B.res
    rw [hh] at h1
    cases h1
  refine ⟨⟨hA.blocks keep, ?_, wsetN_below _ _ _ _ _ B.low B.below⟩, ?_⟩
  · rcases hO with h1 | ⟨g, c, arr, h1, h2, h3⟩
    · exact .inl h1
    · refine .inr ⟨g, c, arr, h1, (wsetN_other _ _ _ _ _ (hne _ _ _ h1)).trans h2, fun i hi => ?_⟩
      obtain ⟨dv, av', pv, ov', kv, q1, q2, q3, q4, q5, q6⟩ := h3 i hi
      exact ⟨dv, av', pv, ov', kv, q1, q2, q3.blocks keep, q4, q5, q6⟩
  · rw [wsetN_row _ _ _ _ _ _ B.res]
    congr 2
    apply Array.ext_getElem?
    intro i
    have hz : (#[.int .u64 0, .int .i64 0, .int .i32 0, .string ⟨#[]⟩, .slice none 0 0, .slice none 0 0, .int .i32 0, .int .i64 0, .int .i32 0, .slice none 0 0, .slice none 0 0, .bool false, .slice none 0 0, .int .i64 0] : Array Value).size = 14 := rfl
    by_cases hi : i < 14
    · have := setN_in L #[.int .u64 0, .int .i64 0, .int .i32 0, .string ⟨#[]⟩, .slice none 0 0, .slice none 0 0, .int .i32 0, .int .i64 0, .int .i32 0, .slice none 0 0, .slice none 0 0, .bool false, .slice none 0 0, .int .i64 0] 0 i (by omega) (by rw [hz]; omega)
      rw [Nat.zero_add] at this
      rw [this]
      simp
    · rw [Array.getElem?_eq_none (by rw [setN_size, hz]; omega), Array.getElem?_eq_none (by simp; omega)]

theorem FillA.spot {w1 wr : World} {g : Nat} {l : List Acl} {k : Nat} (I : FillA w1 wr g l k) (j : Nat) (hj : j < l.length * 3) : (∃ v, wr.cell? ⟨g, j, none⟩ = some v) ∧ wr.frozen? ⟨g, j, none⟩ = false := by
  obtain ⟨_, arr, h1, h2, _⟩ := I
  exact ⟨⟨arr[j]'(by omega), cell_in h1 j _ (Array.getElem?_eq_getElem (by omega))⟩, by simp [World.frozen?, h1]⟩

theorem FillA.done {w1 wr : World} {g : Nat} {l : List Acl} (I : FillA w1 wr g l l.length) : AclRow wr (.slice (some ⟨g, 0, none⟩) l.length l.length) l := by
  obtain ⟨_, arr, h1, h2, h3⟩ := I
  exact .inr ⟨g, _, arr, rfl, h1, h3⟩

set_option maxRecDepth 100000 in
set_option maxHeartbeats 6400000 in
theorem to_step (m : Nat) (W : World) (h : Head) (ops : List Tx) (hal : h.fs.acl.length ≤ 1048576) (hkl : h.ask.length ≤ 1048576) (hol : ops.length ≤ 1048576) (da aa pa oa ka : Option Addr) (dc ac pc oc kc : Nat) (css : List (Array Value))
    (hA : AclsIn W (.slice aa h.fs.acl.length ac) h.fs.acl) (hK : AskIn W (.slice ka h.ask.length kc) h.ask)
    (hO : OpsIn W (.slice oa ops.length oc) css) (hcs : css.length = ops.length) (hT : ∀ i, i < ops.length → (css.getD i #[]).size = 14)
    (ih : ∀ i, i < ops.length → ∀ (w : World), Below W.heap.size W w → Calls Tryd.prog 8 #[.agg (css.getD i #[])] w fun e w' => ∃ dv av pv ov kv, e = .returned (.agg (cells (ops.getD i default).head dv av pv ov kv)) ∧ BytesIn W dv (ops.getD i default).head.fs.data ∧ AclRow w' av (ops.getD i default).head.fs.acl ∧ BytesIn W pv (ops.getD i default).head.fs.pw ∧ IsSl ov ∧ IsSl kv ∧ Below w.heap.size w w')
    (w : World) (hW : Below W.heap.size W w) :
    Calls Tryd.prog 8 #[.agg #[.int .u64 h.zx, .int .i64 h.tm, .int .i32 h.fs.op, .string h.fs.path, .slice da (wBuf h.fs.data) dc, .slice aa h.fs.acl.length ac, .int .i32 h.fs.ver, .int .i64 h.fs.ses, .int .i32 h.fs.tmo, .slice pa (wBuf h.fs.pw) pc, .slice oa ops.length oc, .bool h.seq, .slice ka h.ask.length kc, .int .i64 h.ases]] w fun e w' => ∃ av ov kv, e = .returned (.agg (cells h (.slice da (wBuf h.fs.data) dc) av (.slice pa (wBuf h.fs.pw) pc) ov kv)) ∧ AclRow w' av h.fs.acl ∧ OpRow W w' ov ops ∧ IsSl kv ∧ Below w.heap.size w w' := by
  have HA := Hid.mk (And.intro hA hK)
  have HO := Hid.mk (And.intro hO (And.intro hcs (And.intro hT ih)))
  clear hO hcs hT ih
  have HW := Hid.mk hW
  have hq24 := fun a l c (w : World) => run_neq_slice_nil (P := Tryd.prog) w 24 58 a l c Tryd.underlying24
  have HQ := Hid.mk hq24
  clear hA hK hW hq24
  go_enter Tryd.func8, Tryd.ntmps8
  go_upto_if 11 with fail
  have H0 : Hid (Boxed w ((w.alloc (.cells #[.int .u64 h.zx, .int .i64 h.tm, .int .i32 h.fs.op, .string h.fs.path, .slice da (wBuf h.fs.data) dc, .slice aa h.fs.acl.length ac, .int .i32 h.fs.ver, .int .i64 h.fs.ses, .int .i32 h.fs.tmo, .slice pa (wBuf h.fs.pw) pc, .slice oa ops.length oc, .bool h.seq, .slice ka h.ask.length kc, .int .i64 h.ases] 28)).alloc (.cells #[.int .u64 0, .int .i64 0, .int .i32 0, .string ⟨#[]⟩, .slice none 0 0, .slice none 0 0, .int .i32 0, .int .i64 0, .int .i32 0, .slice none 0 0, .slice none 0 0, .bool false, .slice none 0 0, .int .i64 0] 40)) w.heap.size (w.heap.size + 1) #[.int .u64 h.zx, .int .i64 h.tm, .int .i32 h.fs.op, .string h.fs.path, .slice da (wBuf h.fs.data) dc, .slice aa h.fs.acl.length ac, .int .i32 h.fs.ver, .int .i64 h.fs.ses, .int .i32 h.fs.tmo, .slice pa (wBuf h.fs.pw) pc, .slice oa ops.length oc, .bool h.seq, .slice ka h.ask.length kc, .int .i64 h.ases] #[.int .u64 0, .int .i64 0, .int .i32 0, .string ⟨#[]⟩, .slice none 0 0, .slice none 0 0, .int .i32 0, .int .i64 0, .int .i32 0, .slice none 0 0, .slice none 0 0, .bool false, .slice none 0 0, .int .i64 0]) := by
    refine ⟨((Below.refl _ w).alloc (Nat.le_refl _) _).alloc (by simp) _, ?_, ?_, Nat.le_succ _⟩
    · exact (Below.heap_alloc _ _ _ (by simp)).trans (heap_new _ _)
    · have := heap_new (w.alloc (.cells #[.int .u64 h.zx, .int .i64 h.tm, .int .i32 h.fs.op, .string h.fs.path, .slice da (wBuf h.fs.data) dc, .slice aa h.fs.acl.length ac, .int .i32 h.fs.ver, .int .i64 h.fs.ses, .int .i32 h.fs.tmo, .slice pa (wBuf h.fs.pw) pc, .slice oa ops.length oc, .bool h.seq, .slice ka h.ask.length kc, .int .i64 h.ases] 28)) (.cells #[.int .u64 0, .int .i64 0, .int .i32 0, .string ⟨#[]⟩, .slice none 0 0, .slice none 0 0, .int .i32 0, .int .i64 0, .int .i32 0, .slice none 0 0, .slice none 0 0, .bool false, .slice none 0 0, .int .i64 0] 40)
      simpa using this
  have HQ24 := HQ.out
  generalize ((w.alloc (.cells #[.int .u64 h.zx, .int .i64 h.tm, .int .i32 h.fs.op, .string h.fs.path, .slice da (wBuf h.fs.data) dc, .slice aa h.fs.acl.length ac, .int .i32 h.fs.ver, .int .i64 h.fs.ses, .int .i32 h.fs.tmo, .slice pa (wBuf h.fs.pw) pc, .slice oa ops.length oc, .bool h.seq, .slice ka h.ask.length kc, .int .i64 h.ases] 28)).alloc (.cells #[.int .u64 0, .int .i64 0, .int .i32 0, .string ⟨#[]⟩, .slice none 0 0, .slice none 0 0, .int .i32 0, .int .i64 0, .int .i32 0, .slice none 0 0, .slice none 0 0, .bool false, .slice none 0 0, .int .i64 0] 40)) = w0 at H0 ⊢
  obtain ⟨b, hb⟩ : ∃ b, b = w.heap.size := ⟨_, rfl⟩
  rw [← hb] at H0 ⊢
  obtain ⟨r, hr⟩ : ∃ r, r = b + 1 := ⟨_, rfl⟩
  rw [← hr] at H0 ⊢
  clear hb hr
  go_cut [3] (fun v wc => Hid (AclRow wc v h.fs.acl ∧ IsSl v ∧ Boxed w wc b r #[.int .u64 h.zx, .int .i64 h.tm, .int .i32 h.fs.op, .string h.fs.path, .slice da (wBuf h.fs.data) dc, .slice aa h.fs.acl.length ac, .int .i32 h.fs.ver, .int .i64 h.fs.ses, .int .i32 h.fs.tmo, .slice pa (wBuf h.fs.pw) pc, .slice oa ops.length oc, .bool h.seq, .slice ka h.ask.length kc, .int .i64 h.ases] #[.int .u64 0, .int .i64 0, .int .i32 0, .string ⟨#[]⟩, .slice none 0 0, .slice none 0 0, .int .i32 0, .int .i64 0, .int .i32 0, .slice none 0 0, .slice none 0 0, .bool false, .slice none 0 0, .int .i64 0]))
  case first =>
    rcases HA.out.1 with ⟨e0, e1⟩ | ⟨x, c, e0, hx⟩
    · injection e0 with i1 i2 i3
      subst i1
      clear i2 i3
      go_wp2_with fail
      go_meet
      case rel => exact ⟨.inl ⟨rfl, e1⟩, ⟨_, _, _, rfl⟩, H0.out⟩
    · injection e0 with i1 i2 i3
      subst i1
      subst i3
      clear i2
      have HX : Hid (∀ k, k < h.fs.acl.length → W.cell? (x.add (k * 3)) = some (.int .i32 (h.fs.acl.getD k default).perms) ∧ W.cell? (x.add (k * 3 + 1)) = some (.string (h.fs.acl.getD k default).scheme) ∧ W.cell? (x.add (k * 3 + 2)) = some (.string (h.fs.acl.getD k default).id)) := hx
      clear hx
      have hmk := run_makeA h.fs.acl.length hal
      have B5 : w0.cell? ⟨b, 5, none⟩ = some (.slice (some x) h.fs.acl.length ac) := cell_in H0.out.box 5 _ rfl
      go_wp2_with fail
      clear hmk B5
      have HS := Hid.mk (FillA.start w0 h.fs.acl)
      generalize w0.alloc (.cells (aclZeros h.fs.acl.length) 64) = w1 at HS ⊢
      have hbl : b < w0.heap.size := (Array.getElem?_eq_some_iff.1 H0.out.box).1
      generalize hgg : w0.heap.size = g at HS hbl ⊢
      have hgl : w0.heap.size ≤ g := Nat.le_of_eq hgg
      clear hgg
      go_loopw [4] (fun t wr => ∃ k : Nat, k ≤ h.fs.acl.length ∧ t = .int .i64 k ∧ Hid (FillA w0 wr g h.fs.acl k)) (fun t _ => h.fs.acl.length - (intOf t).toNat)
      case atStart => exact ⟨0, Nat.zero_le _, rfl, HS⟩
      case round =>
        clear HS
        obtain ⟨k, hk, rfl, HR⟩ := hrel
        have HBX := Hid.mk (H0.out.kept HR.out.below)
        have B5 : wr.cell? ⟨b, 5, none⟩ = some (.slice (some x) h.fs.acl.length ac) := cell_in HBX.out.box 5 _ rfl
        by_cases hlt : k < h.fs.acl.length
        · have hlt' : (k : Int) < (h.fs.acl.length : Int) := by omega
          have hWr : Below W.heap.size W wr := HW.out.trans (HBX.out.below.mono HW.out.size)
          obtain ⟨q0, q1, q2⟩ := HX.out k hlt
          have q0 := below_cells hWr _ _ q0
          have q1 := below_cells hWr _ _ q1
          have q2 := below_cells hWr _ _ q2
          have HN := Hid.mk (HR.out.next hgl hlt 1)
          obtain ⟨⟨z0, s0⟩, f0⟩ := HR.out.spot (k * 3) (by omega)
          obtain ⟨⟨z1, s1⟩, f1⟩ := HR.out.spot (k * 3 + 1) (by omega)
          obtain ⟨⟨z2, s2⟩, f2⟩ := HR.out.spot (k * 3 + 2) (by omega)
          generalize (h.fs.acl.getD k default).perms = t0 at q0 HN
          generalize (h.fs.acl.getD k default).scheme = t1 at q1 HN
          generalize (h.fs.acl.getD k default).id = t2 at q2 HN
          obtain ⟨o, ho⟩ : ∃ o, o = k * 3 := ⟨_, rfl⟩
          obtain ⟨y, hy⟩ : ∃ y, y = x.add o := ⟨_, rfl⟩
          rw [← ho] at q0 q1 q2 s0 s1 s2 f0 f1 f2 HN
          rw [← Deep.add_add, ← hy] at q1 q2
          rw [← hy] at q0
          rw [show y.add 1 = ⟨y.block, y.off + 1, none⟩ from rfl] at q1
          rw [show y.add 2 = ⟨y.block, y.off + 2, none⟩ from rfl] at q2
          have ho' : k * 3 = o := ho.symm
          have hy' : x.add o = y := hy.symm
          clear ho hy hWr HR
          go_wp2_with fail
          go_region
          all_goals
            go_wp2_with fail
            exact ⟨⟨k + 1, by omega, by go_num, HN⟩, by simp [intOf]; omega⟩
        · have hke : k = h.fs.acl.length := by omega
          subst hke
          go_wp2_with fail
          go_meet
          case rel => exact ⟨HR.out.done, ⟨_, _, _, rfl⟩, HBX.out⟩
  case rest =>
    obtain ⟨wA, hwA⟩ : ∃ x, x = wc := ⟨_, rfl⟩
    subst hwA
    obtain ⟨va, l1, c1, rfl⟩ := hcut.out.2.1
    have HC := hcut
    clear hcut H0
    have B12 : wA.cell? ⟨b, 12, none⟩ = some (.slice ka h.ask.length kc) := cell_in HC.out.2.2.box 12 _ rfl
    have hq26 := fun a l c (w : World) => run_neq_slice_nil (P := Tryd.prog) w 26 60 a l c Tryd.underlying26
    go_upto_if 47 with fail
    clear hq26
    go_cut [5] (fun v wd => Hid (IsSl v ∧ Below wA.heap.size wA wd))
    case first =>
      rcases HA.out.2 with ⟨e0, e1⟩ | ⟨x, c, e0, hx⟩
      · injection e0 with i1 i2 i3
        subst i1
        clear i2 i3
        go_wp2_with fail
        go_meet
        case rel => exact ⟨⟨_, _, _, rfl⟩, Below.refl _ _⟩
      · injection e0 with i1 i2 i3
        subst i1
        subst i3
        clear i2
        have HX := Hid.mk hx
        clear hx
        have hmk := run_makeK h.ask.length hkl
        go_wp2_with fail
        clear hmk B12
        have HS := Hid.mk (FillK.start wA h.ask.length)
        generalize wA.alloc (.cells (askZeros h.ask.length) 65) = w1 at HS ⊢
        have hbl : b < wA.heap.size := (Array.getElem?_eq_some_iff.1 HC.out.2.2.box).1
        generalize hgg : wA.heap.size = g at HS hbl ⊢
        have hgl : wA.heap.size ≤ g := Nat.le_of_eq hgg
        have HGG := Hid.mk hgg
        clear hgg
        go_loopw [6] (fun t wr => ∃ k : Nat, k ≤ h.ask.length ∧ t = .int .i64 k ∧ Hid (FillK wA wr g h.ask.length)) (fun t _ => h.ask.length - (intOf t).toNat)
        case atStart => exact ⟨0, Nat.zero_le _, rfl, HS⟩
        case round =>
          clear HS
          obtain ⟨k, hk, rfl, HR⟩ := hrel
          have HBX := Hid.mk (HC.out.2.2.kept HR.out.below)
          have B12 : wr.cell? ⟨b, 12, none⟩ = some (.slice (some x) h.ask.length kc) := cell_in HBX.out.box 12 _ rfl
          by_cases hlt : k < h.ask.length
          · have hlt' : (k : Int) < (h.ask.length : Int) := by omega
            have hWr : Below W.heap.size W wr := HW.out.trans (HBX.out.below.mono HW.out.size)
            obtain ⟨q0, q1⟩ := HX.out k hlt
            have q0 := below_cells hWr _ _ q0
            have q1 := below_cells hWr _ _ q1
            obtain ⟨⟨z0, s0⟩, f0⟩ := HR.out.spot (k * 2) (by omega)
            obtain ⟨⟨z1, s1⟩, f1⟩ := HR.out.spot (k * 2 + 1) (by omega)
            generalize (h.ask.getD k default).1 = t0 at q0
            generalize (h.ask.getD k default).2 = t1 at q1
            obtain ⟨o, ho⟩ : ∃ o, o = k * 2 := ⟨_, rfl⟩
            obtain ⟨y, hy⟩ : ∃ y, y = x.add o := ⟨_, rfl⟩
            rw [← ho] at q0 q1 s0 s1 f0 f1
            rw [← Deep.add_add, ← hy] at q1
            rw [← hy] at q0
            rw [show y.add 1 = ⟨y.block, y.off + 1, none⟩ from rfl] at q1
            have ho' : k * 2 = o := ho.symm
            have hy' : x.add o = y := hy.symm
            clear ho hy hWr
            go_wp2_with fail
            go_region
            all_goals
              go_wp2_with fail
              exact ⟨⟨k + 1, by omega, by go_num, HR.out.next hgl 1 _ _ _ _⟩, by simp [intOf]; omega⟩
          · have hke : k = h.ask.length := by omega
            subst hke
            go_wp2_with fail
            go_meet
            case rel => exact ⟨⟨_, _, _, rfl⟩, HR.out.below⟩
    case rest =>
      obtain ⟨vk, l2, c2, rfl⟩ := hcut.out.1
      have HD : Hid (AclRow wc (.slice va l1 c1) h.fs.acl ∧ Boxed w wc b r #[.int .u64 h.zx, .int .i64 h.tm, .int .i32 h.fs.op, .string h.fs.path, .slice da (wBuf h.fs.data) dc, .slice aa h.fs.acl.length ac, .int .i32 h.fs.ver, .int .i64 h.fs.ses, .int .i32 h.fs.tmo, .slice pa (wBuf h.fs.pw) pc, .slice oa ops.length oc, .bool h.seq, .slice ka h.ask.length kc, .int .i64 h.ases] #[.int .u64 0, .int .i64 0, .int .i32 0, .string ⟨#[]⟩, .slice none 0 0, .slice none 0 0, .int .i32 0, .int .i64 0, .int .i32 0, .slice none 0 0, .slice none 0 0, .bool false, .slice none 0 0, .int .i64 0]) := ⟨HC.out.1.blocks (fun bb arr hh => (hcut.out.2.block bb (Array.getElem?_eq_some_iff.1 hh).1).trans hh), HC.out.2.2.kept hcut.out.2⟩
      clear hcut HC B12
      obtain ⟨wB, hwB⟩ : ∃ x, x = wc := ⟨_, rfl⟩
      subst hwB
      have B10 : wB.cell? ⟨b, 10, none⟩ = some (.slice oa ops.length oc) := cell_in HD.out.2.box 10 _ rfl
      have hq25 := fun a l c (w : World) => run_neq_slice_nil (P := Tryd.prog) w 25 28 a l c Tryd.underlying25
      go_upto_if 77 with fail
      clear hq25
      go_cut [7] (fun v wd => Hid ((OpRow W wd v ops ∧ ∀ g l c, v = .slice (some ⟨g, 0, none⟩) l c → wB.heap.size ≤ g) ∧ IsSl v ∧ Below wB.heap.size wB wd))
      case first =>
        rcases HO.out.1 with ⟨e0, e1⟩ | ⟨x, c, e0, hx⟩
        · have hnil : ops = [] := by
            have h1 := HO.out.2.1
            rw [e1] at h1
            exact List.length_eq_zero_iff.1 h1.symm
          injection e0 with i1 i2 i3
          subst i1
          clear i2 i3 e1
          have HNIL := Hid.mk hnil
          clear hnil
          go_wp2_with fail
          go_meet
          case rel => exact ⟨⟨.inl ⟨rfl, HNIL.out⟩, fun g l c e => by cases e⟩, ⟨_, _, _, rfl⟩, Below.refl _ _⟩
        · injection e0 with i1 i2 i3
          subst i1
          subst i3
          have HI2 := Hid.mk i2
          clear i2
          have HX := Hid.mk hx
          clear hx
          have hmk := run_makeO ops.length hol
          go_wp2_with fail
          clear hmk B10
          have HS := Hid.mk (FillO.start W wB ops)
          generalize wB.alloc (.cells (opZeros ops.length) 40) = w1 at HS ⊢
          generalize hgg : wB.heap.size = g at HS ⊢
          have hgl : wB.heap.size ≤ g := Nat.le_of_eq hgg
          clear hgg
          go_loopw [8] (fun t wr => ∃ k : Nat, k ≤ ops.length ∧ t = .int .i64 k ∧ Hid (FillO W wB wr g ops k)) (fun t _ => ops.length - (intOf t).toNat)
          case atStart => exact ⟨0, Nat.zero_le _, rfl, HS⟩
          case round =>
            clear HS
            obtain ⟨k, hk, rfl, HR⟩ := hrel
            have HBX := Hid.mk (HD.out.2.kept HR.out.below)
            have B10 : wr.cell? ⟨b, 10, none⟩ = some (.slice (some x) ops.length oc) := cell_in HBX.out.box 10 _ rfl
            by_cases hlt : k < ops.length
            · have hlt' : (k : Int) < (ops.length : Int) := by omega
              have hWr : Below W.heap.size W wr := HW.out.trans (HBX.out.below.mono HW.out.size)
              have hsz := HO.out.2.2.1 k hlt
              have hcell : ∀ j, j < 14 → wr.cell? (x.add (k * 14 + j)) = (css.getD k #[])[j]? := fun j hj => by
                have h1 := HX.out k (by have := HI2.out; omega) j hj
                have hg : (css.getD k #[])[j]? = some ((css.getD k #[])[j]'(by omega)) := Array.getElem?_eq_getElem (by omega)
                rw [hg] at h1 ⊢
                exact below_cells hWr _ _ h1
              have ihk := HO.out.2.2.2 k hlt wr hWr
              obtain ⟨v0, v1, v2, v3, v4, v5, v6, v7, v8, v9, v10, v11, v12, v13, e14⟩ := arr14 _ hsz
              rw [e14] at hcell ihk
              obtain ⟨o, ho⟩ : ∃ o, o = k * 14 := ⟨_, rfl⟩
              obtain ⟨y, hy⟩ : ∃ y, y = x.add o := ⟨_, rfl⟩
              have ho' : k * 14 = o := ho.symm
              have hy' : x.add o = y := hy.symm
              have hcj : ∀ j, j < 14 → wr.cell? (y.add j) = (#[v0, v1, v2, v3, v4, v5, v6, v7, v8, v9, v10, v11, v12, v13] : Array Value)[j]? := fun j hj => by
                have h1 := hcell j hj
                rw [ho', ← Deep.add_add, hy'] at h1
                exact h1
              have c0 : wr.cell? y = some v0 := by
                have h1 := hcj 0 (by omega)
                rw [Addr.add_zero'] at h1
                exact h1
              have c1 : wr.cell? ⟨y.block, y.off + 1, none⟩ = some v1 := hcj 1 (by omega)
              have c2 : wr.cell? ⟨y.block, y.off + 2, none⟩ = some v2 := hcj 2 (by omega)
              have c3 : wr.cell? ⟨y.block, y.off + 3, none⟩ = some v3 := hcj 3 (by omega)
              have c4 : wr.cell? ⟨y.block, y.off + 4, none⟩ = some v4 := hcj 4 (by omega)
              have c5 : wr.cell? ⟨y.block, y.off + 5, none⟩ = some v5 := hcj 5 (by omega)
              have c6 : wr.cell? ⟨y.block, y.off + 6, none⟩ = some v6 := hcj 6 (by omega)
              have c7 : wr.cell? ⟨y.block, y.off + 7, none⟩ = some v7 := hcj 7 (by omega)
              have c8 : wr.cell? ⟨y.block, y.off + 8, none⟩ = some v8 := hcj 8 (by omega)
              have c9 : wr.cell? ⟨y.block, y.off + 9, none⟩ = some v9 := hcj 9 (by omega)
              have c10 : wr.cell? ⟨y.block, y.off + 10, none⟩ = some v10 := hcj 10 (by omega)
              have c11 : wr.cell? ⟨y.block, y.off + 11, none⟩ = some v11 := hcj 11 (by omega)
              have c12 : wr.cell? ⟨y.block, y.off + 12, none⟩ = some v12 := hcj 12 (by omega)
              have c13 : wr.cell? ⟨y.block, y.off + 13, none⟩ = some v13 := hcj 13 (by omega)
              obtain ⟨tk, htk⟩ : ∃ t, t = ops.getD k default := ⟨_, rfl⟩
              have HN : Hid (∀ (w2 : World) (dv av pv ov kv : Value), Below wr.heap.size wr w2 → BytesIn W dv tk.head.fs.data → AclRow w2 av tk.head.fs.acl → BytesIn W pv tk.head.fs.pw → IsSl ov → IsSl kv → FillO W wB (wsetN w2 g o (cells tk.head dv av pv ov kv).toList) g ops (k + 1)) := by
                intro w2 dv av pv ov kv hb2 h1 h2 h3 h4 h5
                rw [htk] at h1 h2 h3 ⊢
                rw [ho]
                exact HR.out.next hgl hlt hb2 dv av pv ov kv h1 h2 h3 h4 h5
              rw [← htk] at ihk
              have HI := Hid.mk ihk
              have HO' := Hid.mk ho
              clear htk ihk hcj hcell hWr hsz e14 ho hy
              go_wp2_with fail
              refine HI.out.mono ?_
              rintro e w5 ⟨dv, av, pv, ov, kv, rfl, g1, g2, g3, g4, g5, hb5⟩
              obtain ⟨za, zl, zc, rfl⟩ := g1.sl
              obtain ⟨ya, yl, yc, rfl⟩ := g2.sl
              obtain ⟨xa, xl, xc, rfl⟩ := g3.sl
              obtain ⟨ua, ul, uc, rfl⟩ := g4
              obtain ⟨ta, tl, tc, rfl⟩ := g5
              have hst := (HR.out.later hb5).storeC hlt tk.head za ya xa ua ta zl yl xl ul tl zc yc xc uc tc
              rw [← HO'.out] at hst
              have HNN := Hid.mk (HN.out w5 _ _ _ (.slice ua ul uc) (.slice ta tl tc) hb5 g1 g2 g3 ⟨ua, ul, uc, rfl⟩ ⟨ta, tl, tc, rfl⟩)
              clear g1 g2 g3 hb5 c0 c1 c2 c3 c4 c5 c6 c7 c8 c9 c10 c11 c12 c13
              go_wp2_with fail
              refine ⟨⟨.int .i64 ((k : Int) + 1), _, _, _, _, _, _, _, _, _, _, _, _, _, _, _, _, ⟨k + 1, by omega, by go_num, HNN⟩, rfl⟩, ?_⟩
              show ops.length - (intOf (.int .i64 ((k : Int) + 1))).toNat < ops.length - (intOf (.int .i64 (k : Int))).toNat
              simp only [intOf]
              omega
            · have hke : k = ops.length := by omega
              subst hke
              go_wp2_with fail
              go_meet
              case rel => exact ⟨⟨HR.out.done, fun g' l c e => by cases e; exact hgl⟩, ⟨_, _, _, rfl⟩, HR.out.below⟩
      case rest =>
        obtain ⟨vo, l3, c3, rfl⟩ := hcut.out.2.1
        have HE : Hid (AclRow wc (.slice va l1 c1) h.fs.acl ∧ OpRow W wc (.slice vo l3 c3) ops ∧ Boxed w wc b r #[.int .u64 h.zx, .int .i64 h.tm, .int .i32 h.fs.op, .string h.fs.path, .slice da (wBuf h.fs.data) dc, .slice aa h.fs.acl.length ac, .int .i32 h.fs.ver, .int .i64 h.fs.ses, .int .i32 h.fs.tmo, .slice pa (wBuf h.fs.pw) pc, .slice oa ops.length oc, .bool h.seq, .slice ka h.ask.length kc, .int .i64 h.ases] #[.int .u64 0, .int .i64 0, .int .i32 0, .string ⟨#[]⟩, .slice none 0 0, .slice none 0 0, .int .i32 0, .int .i64 0, .int .i32 0, .slice none 0 0, .slice none 0 0, .bool false, .slice none 0 0, .int .i64 0]) := ⟨HD.out.1.blocks (fun bb arr hh => (hcut.out.2.2.block bb (Array.getElem?_eq_some_iff.1 hh).1).trans hh), hcut.out.1.1, HD.out.2.kept hcut.out.2.2⟩
        have HNE : Hid (∀ g l c, (Value.slice vo l3 c3) = .slice (some ⟨g, 0, none⟩) l c → g ≠ r) := fun g l c e hh => by
          have h1 := hcut.out.1.2 g l c e
          have h2 := (Array.getElem?_eq_some_iff.1 HD.out.2.res).1
          omega
        clear hcut HD B10
        obtain ⟨wC, hwC⟩ : ∃ x, x = wc := ⟨_, rfl⟩
        subst hwC
        have d0 : wC.cell? ⟨b, 0, none⟩ = some (.int .u64 h.zx) := cell_in HE.out.2.2.box 0 _ rfl
        have d1 : wC.cell? ⟨b, 1, none⟩ = some (.int .i64 h.tm) := cell_in HE.out.2.2.box 1 _ rfl
        have d2 : wC.cell? ⟨b, 2, none⟩ = some (.int .i32 h.fs.op) := cell_in HE.out.2.2.box 2 _ rfl
        have d3 : wC.cell? ⟨b, 3, none⟩ = some (.string h.fs.path) := cell_in HE.out.2.2.box 3 _ rfl
        have d4 : wC.cell? ⟨b, 4, none⟩ = some (.slice da (wBuf h.fs.data) dc) := cell_in HE.out.2.2.box 4 _ rfl
        have d6 : wC.cell? ⟨b, 6, none⟩ = some (.int .i32 h.fs.ver) := cell_in HE.out.2.2.box 6 _ rfl
        have d7 : wC.cell? ⟨b, 7, none⟩ = some (.int .i64 h.fs.ses) := cell_in HE.out.2.2.box 7 _ rfl
        have d8 : wC.cell? ⟨b, 8, none⟩ = some (.int .i32 h.fs.tmo) := cell_in HE.out.2.2.box 8 _ rfl
        have d9 : wC.cell? ⟨b, 9, none⟩ = some (.slice pa (wBuf h.fs.pw) pc) := cell_in HE.out.2.2.box 9 _ rfl
        have d11 : wC.cell? ⟨b, 11, none⟩ = some (.bool h.seq) := cell_in HE.out.2.2.box 11 _ rfl
        have d13 : wC.cell? ⟨b, 13, none⟩ = some (.int .i64 h.ases) := cell_in HE.out.2.2.box 13 _ rfl
        have s0 : wC.cell? ⟨r, 0, none⟩ = some (.int .u64 0) := cell_in HE.out.2.2.res 0 _ rfl
        have s1 : wC.cell? ⟨r, 1, none⟩ = some (.int .i64 0) := cell_in HE.out.2.2.res 1 _ rfl
        have s2 : wC.cell? ⟨r, 2, none⟩ = some (.int .i32 0) := cell_in HE.out.2.2.res 2 _ rfl
        have s3 : wC.cell? ⟨r, 3, none⟩ = some (.string ⟨#[]⟩) := cell_in HE.out.2.2.res 3 _ rfl
        have s4 : wC.cell? ⟨r, 4, none⟩ = some (.slice none 0 0) := cell_in HE.out.2.2.res 4 _ rfl
        have s5 : wC.cell? ⟨r, 5, none⟩ = some (.slice none 0 0) := cell_in HE.out.2.2.res 5 _ rfl
        have s6 : wC.cell? ⟨r, 6, none⟩ = some (.int .i32 0) := cell_in HE.out.2.2.res 6 _ rfl
        have s7 : wC.cell? ⟨r, 7, none⟩ = some (.int .i64 0) := cell_in HE.out.2.2.res 7 _ rfl
        have s8 : wC.cell? ⟨r, 8, none⟩ = some (.int .i32 0) := cell_in HE.out.2.2.res 8 _ rfl
        have s9 : wC.cell? ⟨r, 9, none⟩ = some (.slice none 0 0) := cell_in HE.out.2.2.res 9 _ rfl
        have s10 : wC.cell? ⟨r, 10, none⟩ = some (.slice none 0 0) := cell_in HE.out.2.2.res 10 _ rfl
        have s11 : wC.cell? ⟨r, 11, none⟩ = some (.bool false) := cell_in HE.out.2.2.res 11 _ rfl
        have s12 : wC.cell? ⟨r, 12, none⟩ = some (.slice none 0 0) := cell_in HE.out.2.2.res 12 _ rfl
        have s13 : wC.cell? ⟨r, 13, none⟩ = some (.int .i64 0) := cell_in HE.out.2.2.res 13 _ rfl
        have f0 : wC.frozen? ⟨r, 0, none⟩ = false := by simp [World.frozen?, HE.out.2.2.res]
        have f1 : wC.frozen? ⟨r, 1, none⟩ = false := by simp [World.frozen?, HE.out.2.2.res]
        have f2 : wC.frozen? ⟨r, 2, none⟩ = false := by simp [World.frozen?, HE.out.2.2.res]
        have f3 : wC.frozen? ⟨r, 3, none⟩ = false := by simp [World.frozen?, HE.out.2.2.res]
        have f4 : wC.frozen? ⟨r, 4, none⟩ = false := by simp [World.frozen?, HE.out.2.2.res]
        have f5 : wC.frozen? ⟨r, 5, none⟩ = false := by simp [World.frozen?, HE.out.2.2.res]
        have f6 : wC.frozen? ⟨r, 6, none⟩ = false := by simp [World.frozen?, HE.out.2.2.res]
        have f7 : wC.frozen? ⟨r, 7, none⟩ = false := by simp [World.frozen?, HE.out.2.2.res]
        have f8 : wC.frozen? ⟨r, 8, none⟩ = false := by simp [World.frozen?, HE.out.2.2.res]
        have f9 : wC.frozen? ⟨r, 9, none⟩ = false := by simp [World.frozen?, HE.out.2.2.res]
        have f10 : wC.frozen? ⟨r, 10, none⟩ = false := by simp [World.frozen?, HE.out.2.2.res]
        have f11 : wC.frozen? ⟨r, 11, none⟩ = false := by simp [World.frozen?, HE.out.2.2.res]
        have f12 : wC.frozen? ⟨r, 12, none⟩ = false := by simp [World.frozen?, HE.out.2.2.res]
        have f13 : wC.frozen? ⟨r, 13, none⟩ = false := by simp [World.frozen?, HE.out.2.2.res]
        go_wp2_with fail
        clear d0 d1 d2 d3 d4 d6 d7 d8 d9 d11 d13 s0 s1 s2 s3 s4 s5 s6 s7 s8 s9 s10 s11 s12 s13 f0 f1 f2 f3 f4 f5 f6 f7 f8 f9 f10 f11 f12 f13
        have HG := Hid.mk (to_end HE.out.2.2 HE.out.1 HE.out.2.1 HNE.out (cells h (.slice da (wBuf h.fs.data) dc) (.slice va l1 c1) (.slice pa (wBuf h.fs.pw) pc) (.slice vo l3 c3) (.slice vk l2 c2)).toList rfl)
        clear HE HNE
        generalize hX : wsetN wC r 0 (cells h (.slice da (wBuf h.fs.data) dc) (.slice va l1 c1) (.slice pa (wBuf h.fs.pw) pc) (.slice vo l3 c3) (.slice vk l2 c2)).toList = X at HG
        change bodyPost Tryd.prog Tryd.f8 _ _ _ (wsetN wC r 0 (cells h (.slice da (wBuf h.fs.data) dc) (.slice va l1 c1) (.slice pa (wBuf h.fs.pw) pc) (.slice vo l3 c3) (.slice vk l2 c2)).toList)
        rw [hX]
        clear hX
        try simp only [Exit.inBlock, Exit.then]
        refine bodyPost_ret (results_cell_row rfl _ X r 40 _ (0, 0) _ rfl HG.out.2 Tryd.underlying40 rfl (by kernel_rfl)) rfl ?_
        exact ⟨.slice va l1 c1, .slice vo l3 c3, .slice vk l2 c2, rfl, HG.out.1.1, HG.out.1.2.1, ⟨_, _, _, rfl⟩, HG.out.1.2.2⟩

end Go.Proofs.Qxb6609425aDoor
