/- From the reading of a slice of strings or of bools to the rows that the walks take. -/
import Derived.Test.Qxb6602934aModsRd
import Derived.ProofKit
import Derived.OpenShut
import Derived.SliceStrings
import Derived.Deep.Grids
namespace Go.Proofs.Qxb6602934aMods
open Go.ChangeShapes Go.WideShapes Go.RowKit Go.Deep

theorem row_at {w : World} {x : Addr} {n m : Nat} {V : Nat → Value} (hnm : n ≤ m) (h : ∀ i, i < m → w.cell? (x.add i) = some (V i)) : Row w (some x) n V := by
  by_cases h0 : n = 0
  · exact Or.inl h0
  · obtain ⟨b, off, spot⟩ := x
    have hspot : spot = none := by simpa [Addr.add] using World.cell?_spot (h 0 (by omega))
    subst hspot
    have hc : ∀ j, j < n → w.cell? ⟨b, off + j, none⟩ = some (V j) := fun j hj => by rw [← Go.WideShapes.add_plain]; exact h j (by omega)
    exact Or.inr ⟨b, off, rfl, World.block_lt_of_cell? _ _ (hc 0 (by omega)), hc⟩

section
variable {H : Type} {enc : TypeId × Value → H} {W : World} {held : Bool} {fuel : Nat} {a : Option Addr} {len cap : Nat} {x : DataW H × List MemPlace}

theorem open_strs (hf : DataW.trod enc Trym.prog W 0 (fun _ => true) held fuel 27 (Value.slice a len cap).cells.toList = some x) :
    ∃ f : Nat → ByteArray, len ≤ maxLen ∧ (a = none → len = 0) ∧ Row W a len fun i => .string (f i) := by
  rcases open_strings Trym.underlying27 Trym.underlying9 (by kernel_rfl) hf with ⟨hcs, _⟩ | ⟨x, l, c, ss, hcs, _, hl, hm, hz, _, hcell, _⟩
  · simp [Value.cells] at hcs
    obtain ⟨rfl, rfl, rfl⟩ := hcs
    exact ⟨fun _ => ByteArray.empty, Nat.zero_le _, fun _ => rfl, Or.inl rfl⟩
  · simp [Value.cells] at hcs
    obtain ⟨rfl, rfl, rfl⟩ := hcs
    simp only [if_true] at hz
    exact ⟨fun i => ss.getD i ByteArray.empty, Nat.le_trans hl hm, nofun, row_at (by rw [← hz] at hl; exact hl) hcell⟩

theorem open_bls (hf : DataW.trod enc Trym.prog W 0 (fun _ => true) held fuel 28 (Value.slice a len cap).cells.toList = some x) :
    ∃ g : Nat → Bool, len ≤ maxLen ∧ (a = none → len = 0) ∧ Row W a len fun i => .bool (g i) := by
  rcases open_bools Trym.underlying28 Trym.underlying4 (by kernel_rfl) hf with ⟨hcs, _⟩ | ⟨x, l, c, B, hcs, _, hl, hm, _, hcell⟩
  · simp [Value.cells] at hcs
    obtain ⟨rfl, rfl, rfl⟩ := hcs
    exact ⟨fun _ => false, Nat.zero_le _, fun _ => rfl, Or.inl rfl⟩
  · simp [Value.cells] at hcs
    obtain ⟨rfl, rfl, rfl⟩ := hcs
    exact ⟨B, Nat.le_trans hl hm, nofun, row_at hl hcell⟩
end
end Go.Proofs.Qxb6602934aMods
