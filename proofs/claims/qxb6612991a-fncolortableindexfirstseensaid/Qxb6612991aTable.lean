/-
  Seat Qxb6612991a: the colour table in memory; its making, its search: contracts.
-/
import Derived.Test.Qxb6612991aRows
import Derived.Test.Qxb6612991aPlain
import Derived.WalkKit
import Derived.WalkSpells
import Derived.WalkLawsBesides
namespace Go.Proofs.Qxb6612991a
open Go.RowKit
set_option linter.unusedVariables false

def isZ : Value → Bool
  | .int .u16 n => n == 0
  | _ => false
def isN : Value → Bool
  | .slice none 0 0 => true
  | _ => false
def okZero : Option Value → Bool
  | some (.agg cs) => (match cs.toList with | v :: r => isN v && r.length == 1024 && r.all isZ | [] => false)
  | _ => false

theorem zero36 : okZero ((Try.prog.info? 36).bind (·.zero)) = true := by kernel_rfl

theorem isZ_eq {v : Value} (h : isZ v = true) : v = .int .u16 0 := by
  unfold isZ at h
  split at h
  · simp at h
    rw [h]
  · cases h
theorem isN_eq {v : Value} (h : isN v = true) : v = .slice none 0 0 := by
  unfold isN at h
  split at h
  · rfl
  · cases h

/-- The table's block: the slice of colours, then the slots. -/
def TabObj (o : Obj) (vc : Value) (sl : Nat → Nat) : Prop :=
  ∃ c : Array Value, o = .cells c 36 ∧ c.size = 1025 ∧ c[0]? = some vc ∧ ∀ s, s < 1024 → c[s + 1]? = some (.int .u16 (sl s : Int))

theorem zeroTab : ∃ Z : Array Value, (∀ w, (zeroValue 36).run Try.prog w = .ok (.agg Z) w) ∧ TabObj (.cells Z 36) (.slice none 0 0) (fun _ => 0) := by
  have h := zero36
  unfold okZero at h
  split at h
  · rename_i cs hcs
    obtain ⟨i, hi, hz⟩ := Option.bind_eq_some_iff.1 hcs
    refine ⟨cs, fun w => by simp [zeroValue, typeInfo, hi, hz], cs, rfl, ?_⟩
    split at h
    · rename_i v r hl
      simp only [Bool.and_eq_true, beq_iff_eq, List.all_eq_true] at h
      obtain ⟨⟨h1, h2⟩, h3⟩ := h
      have hs : cs.size = 1025 := by rw [← Array.length_toList, hl]; simp [h2]
      refine ⟨hs, ?_, fun s hs' => ?_⟩
      · rw [← Array.getElem?_toList, hl, isN_eq h1]
        rfl
      · rw [← Array.getElem?_toList, hl]
        simp only [List.getElem?_cons_succ]
        rw [List.getElem?_eq_getElem (by omega), isZ_eq (h3 _ (List.getElem_mem (by omega)))]
        rfl
    · cases h
  · cases h

set_option maxRecDepth 100000 in
set_option maxHeartbeats 400000 in
theorem newTable_any (w : World) :
    Calls Try.prog 6 #[] w fun e w' => e = .returned (.pointer (some ⟨w.heap.size, 0, none⟩)) ∧ ∃ o, TabObj o (.slice none 0 0) (fun _ => 0) ∧ w.alloc o = w' := by
  obtain ⟨Z, hz, hT⟩ := zeroTab
  have HT : Hid (TabObj (.cells Z 36) (.slice none 0 0) (fun _ => 0)) := hT
  clear hT
  go_enter Try.func6, Try.ntmps6
  go_wp2
  go_ret
  exact ⟨rfl, _, HT.out, rfl⟩

end Go.Proofs.Qxb6612991a
