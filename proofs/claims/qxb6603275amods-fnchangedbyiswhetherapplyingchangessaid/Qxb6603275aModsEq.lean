/- '==' and '!=' on [14]bool. -/
import Derived.Test.Qxb6603275aModsChg
import Derived.ChangeKeysEq
namespace Go.Proofs.Qxb6603275aMods
open Go.RowKit Go.Maps
set_option linter.unusedVariables false

def accEq (A B : Nat → Bool) : Bool := (List.range 14).all fun p => A p == B p
theorem accEq_iff (A B : Nat → Bool) : accEq A B = true ↔ ∀ p, p < 14 → A p = B p := by
  unfold accEq; rw [List.all_eq_true]
  exact ⟨fun h p hp => by simpa using h p (List.mem_range.2 hp), fun h p hp => by simpa using h p (List.mem_range.1 hp)⟩

theorem cells4 : Trym.prog.cellsOf 4 = 1 := by kernel_rfl
theorem info4 : (Trym.prog.info? 4).isSome = true := by kernel_rfl
theorem guard22 : Trym.prog.eqGuardType Trym.prog.depth 22 = false := by kernel_rfl

theorem part_acc (A : Nat → Bool) {p : Nat} (hp : p < 14) (w : World) : (part 4 (acc A) (p * 1)).run Trym.prog w = .ok (.bool (A p)) w := by
  have := acc_at A hp
  simp [part, isAgg, run_underlying Trym.underlying4, this]

theorem items_acc (d : Nat) (A B : Nat → Bool) (w : World) : ∀ is : List Nat, (∀ i ∈ is, i < 14) → (Op.eqItems (d + 1) 4 1 (acc A) (acc B) is).run Trym.prog w = .ok (is.all fun p => A p == B p) w
  | [], _ => by simp [Op.eqItems]
  | i :: is, h => by
    have hi : i < 14 := h i (by simp)
    simp only [Op.eqItems, Sem.run_bind, part_acc A hi, part_acc B hi, run_equalIn_bool' (P := Trym.prog) w d 4 _ _ Trym.underlying4, Result.andThen_ok, List.all_cons]
    cases hb : (A i == B i)
    · simp
    · simp only [Bool.not_true, Bool.false_eq_true, if_false, Bool.true_and]
      exact items_acc d A B w is fun j hj => h j (by simp [hj])

theorem eq22 (A B : Nat → Bool) (w : World) : (Op.equalIn 10000 22 (.agg (acc A)) (.agg (acc B))).run Trym.prog w = .ok (accEq A B) w := by
  obtain ⟨i, hi⟩ := Option.isSome_iff_exists.1 info4
  rw [show (10000 : Nat) = 9999 + 1 from rfl, run_equalIn_array w 9999 (acc A) (acc B) Trym.underlying22 hi, cells4]
  exact items_acc 9998 A B w (List.range 14) fun i hi => List.mem_range.1 hi

end Go.Proofs.Qxb6603275aMods
