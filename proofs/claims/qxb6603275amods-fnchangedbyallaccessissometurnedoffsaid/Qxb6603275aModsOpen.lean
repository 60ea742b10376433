/- From the reading of [14]bool, and of map[int]bool, to what the walks take. -/
import Derived.Test.Qxb6603275aModsChg
import Derived.ProofKit
import Derived.OpenShut
namespace Go.Proofs.Qxb6603275aMods
open Go.ChangeShapes Go.WideShapes Go.RowKit Go.Maps

theorem cells22 : Trym.prog.cellsOf 22 = 14 := by kernel_rfl
theorem cells4' : Trym.prog.cellsOf 4 = 1 := by kernel_rfl

theorem acc_of {cs : Array Value} {A : Nat → Bool} (hs : cs.size = 14) (h : ∀ i, i < 14 → cs[i]? = some (.bool (A i))) : cs = acc A := by
  apply Array.ext_getElem?
  intro i
  by_cases hi : i < 14
  · rw [h i hi, acc_at A hi]
  · rw [acc_none A hi, Array.getElem?_eq_none]; omega

theorem open_acc {H : Type} {enc : TypeId × Value → H} {W : World} {r : Reach} {base b0 : Nat} {sp : Nat → Bool} {held : Bool} {v : Value} {d : DataW H} {p : List MemPlace}
    (hv : Value.okWide Trym.prog W r b0 22 v) (h : DataW.Trod enc Trym.prog W base sp held 22 v d p) : ∃ A, v = .agg (acc A) := by
  unfold Value.okWide at hv
  rw [Trym.underlying22] at hv
  obtain ⟨cs, rfl, hsz, _⟩ := hv
  rw [cells22] at hsz
  obtain ⟨fuel, hf⟩ := h
  obtain ⟨xs, m, _, _, _, hlen, hx⟩ := DataW.trod_array Trym.underlying22 hf
  have hb : ∀ i, i < 14 → ∃ x : Bool, cs[i]? = some (.bool x) := by
    intro i hi
    have h1 := hx i hi
    rw [cells4', Nat.mul_one, List.getElem?_eq_getElem (by omega)] at h1
    obtain ⟨x, h2, _⟩ := DataW.trod_bool Trym.underlying4 h1
    refine ⟨x, ?_⟩
    have h3 : (Value.agg cs).cells.toList = cs.toList := rfl
    have h4 : (List.take 1 (List.drop i cs.toList))[0]? = some (.bool x) := by rw [← h3, h2]; rfl
    rw [List.getElem?_take, if_pos (by omega), List.getElem?_drop, Nat.add_zero, Array.getElem?_toList] at h4
    exact h4
  obtain ⟨A, hA⟩ : ∃ A : Nat → Bool, ∀ i, i < 14 → cs[i]? = some (.bool (A i)) := by
    refine ⟨fun i => match cs[i]? with | some (.bool x) => x | _ => false, fun i hi => ?_⟩
    obtain ⟨x, hx⟩ := hb i hi
    simp only [hx]
  exact ⟨A, by rw [acc_of hsz hA]⟩

end Go.Proofs.Qxb6603275aMods
