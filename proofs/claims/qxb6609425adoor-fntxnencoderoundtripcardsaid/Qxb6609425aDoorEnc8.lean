/-
  Seat Qxb6609425aDoor: ZZtxnEncode.
-/
import Derived.Test.Qxb6609425aDoorEnds
namespace Go.Proofs.Qxb6609425aDoor
open Go.RowKit
set_option linter.unusedVariables false
set_option linter.unusedSimpArgs false

set_option maxRecDepth 100000 in
set_option maxHeartbeats 1600000 in
theorem zzenc_any {W w : World} {E : Nat} {xs : List UInt8} (H : EncS w E W.heap.size xs) (hW : Below W.heap.size W w) (req : Bool) (h : Head) (ops : List Tx) (F : Fits h) (dv av pv ov kv : Value) (S : SmallF h.fs) (SO : ∀ t ∈ ops, SmallF t.head.fs) (hol : ops.length ≤ 1048576) (hd : BytesIn W dv h.fs.data) (ha : AclRow w av h.fs.acl) (hp : BytesIn W pv h.fs.pw) (ho : OpRow W w ov ops) (hlim : xs.length + (encTop req (.mk h ops)).length ≤ 140737488355328) :
    Calls Tryd.prog 7 #[.agg #[.int .u64 h.zx, .int .i64 h.tm, .int .i32 h.fs.op, .string h.fs.path, dv, av, .int .i32 h.fs.ver, .int .i64 h.fs.ses, .int .i32 h.fs.tmo, pv, ov, .bool h.seq, kv, .int .i64 h.ases], .pointer (some ⟨E, 0, none⟩), .bool req] w fun e w' => e = .returned (.tuple #[]) ∧ EncS w' E W.heap.size (xs ++ encTop req (.mk h ops)) ∧ Kept w w' E W.heap.size := by
  have HC := Hid.mk (encode_any (H.alloc (.cells (cells h dv av pv ov kv) 40)) (hW.alloc hW.size _) req h ops F dv av pv ov kv S SO hol hd (ha.kept H (Kept.alloc _ _ _ _)) hp (ho.kept H (Kept.alloc _ _ _ _)) hlim)
  clear H hW F S SO hd ha hp ho hlim
  go_enter Tryd.func7, Tryd.ntmps7
  go_wp2_with fail
  refine HC.out.mono ?_
  rintro e w1 ⟨rfl, hS, hK⟩
  have HS := Hid.mk (And.intro hS ((Kept.alloc w E W.heap.size _).trans hK))
  clear hS hK
  go_wp2_with fail
  go_end0
  exact ⟨rfl, HS.out.1, HS.out.2⟩

end Go.Proofs.Qxb6609425aDoor
