/- cloneStrings, cloneBools. -/
import Derived.Test.Qxb6602934aModsRd
namespace Go.Proofs.Qxb6602934aMods
open Go.RowKit
set_option linter.unusedVariables false

theorem Trym.info9 : (Trym.prog.info? 9).map (fun i => (i.zero, i.size, i.bytes)) = some (some (.string ByteArray.empty), 1, 16) := by kernel_rfl
theorem Trym.info4 : (Trym.prog.info? 4).map (fun i => (i.zero, i.size, i.bytes)) = some (some (.bool false), 1, 1) := by kernel_rfl
theorem Trym.info3 : (Trym.prog.info? 3).map (fun i => (i.zero, i.size, i.bytes)) = some (some (.int .i64 0), 1, 8) := by kernel_rfl

/-- Block 'B' of the call's own is being filled: the first k cells hold V, the others z; all that was there is as it was. -/
structure Fill (w wr : World) (E : TypeId) (n : Nat) (V : Nat → Value) (z : Value) (k : Nat) : Prop where
  row : wr.rowIs w.heap.size E n (fun j => if j < k then V j else z)
  below : Below w.heap.size w wr

theorem Fill.start (w : World) (E : TypeId) (n : Nat) (V : Nat → Value) (z : Value) : Fill w (w.alloc (.cells (madeCells #[z] n) E)) E n V z 0 :=
  ⟨(World.rowIs_made w z n E).congr (fun j _ => by simp), (Below.refl _ _).alloc (Nat.le_refl _) _⟩

theorem Fill.step {w wr : World} {E : TypeId} {n : Nat} {V : Nat → Value} {z : Value} {k : Nat} (h : Fill w wr E n V z k) : Fill w (wr.setCell ⟨w.heap.size, k, none⟩ (V k)) E n V z (k + 1) := by
  refine ⟨(h.row.set k _).congr (fun i _ => ?_), h.below.setCell (Nat.le_refl _) _⟩
  by_cases e : i = k
  · subst e; simp
  · rw [if_neg e]
    by_cases hlt : i < k
    · rw [if_pos hlt, if_pos (by omega)]
    · rw [if_neg hlt, if_neg (by omega)]

theorem Fill.done {w wr : World} {E : TypeId} {n : Nat} {V : Nat → Value} {z : Value} (h : Fill w wr E n V z n) : Row wr (some ⟨w.heap.size, 0, none⟩) n V :=
  Or.inr ⟨_, _, rfl, h.row.lt, fun i hi => by rw [Nat.zero_add, h.row.cell hi, if_pos hi]⟩

/-- What a clone hands back: a slice of n elements that reads as V; nothing that was there has turned. -/
def Cloned (w : World) (n : Nat) (V : Nat → Value) (e : Ending) (w' : World) : Prop :=
  ∃ a', e = .returned (.slice a' n n) ∧ (a' = none → n = 0) ∧ Row w' a' n V ∧ Below w.heap.size w w'

set_option maxHeartbeats 400000 in
theorem clone16 (a : Option Addr) (n cap : Nat) (f : Nat → ByteArray) (w : World) (hn : 16 * n ≤ 281474976710656) (hn' : n ≤ maxLen) (hnil : a = none → n = 0)
    (hr : Row w a n fun i => .string (f i)) :
    Calls Trym.prog 16 #[.slice a n cap] w (Cloned w n (fun i => .string (f i))) := by
  unfold maxLen at hn'
  have heq := fun w => Lib.run_eql_slice_nil (P := Trym.prog) w 27 9 a n cap 0 0 Trym.underlying27
  have hmk := run_make_row' (P := Trym.prog) 27 9 (.string ByteArray.empty) 16 Trym.underlying27 Trym.info9 rfl .i64 .i64 n hn (by omega)
  rcases a with _ | ad
  · obtain rfl : n = 0 := hnil rfl
    go_enter Trym.func16, Trym.ntmps16
    go_wp2
    go_ret
    exact ⟨none, rfl, fun _ => rfl, Or.inl rfl, Below.refl _ _⟩
  · clear hnil
    rcases hr.cases with hc | ⟨b, off, hab, hlt, hc⟩
    · clear hr
      go_enter Trym.func16, Trym.ntmps16
      go_wp2
      clear hmk heq
      go_loopw [4] (fun i wr => ∃ k : Nat, k ≤ n ∧ i = .int .i64 k ∧ Fill w wr 9 n (fun i => .string (f i)) (.string ByteArray.empty) k) (fun i _ => n - (intOf i).toNat)
      case atStart => exact ⟨0, Nat.zero_le _, rfl, Fill.start _ _ _ _ _⟩
      case round =>
        obtain ⟨k, hk, rfl, hF⟩ := hrel
        by_cases hkn : k < n
        · exact (none_in hc hkn).elim
        · obtain rfl : k = n := by omega
          go_wp2
          go_ret
          exact ⟨_, rfl, nofun, hF.done, hF.below⟩
    · cases hab
      clear hr
      go_enter Trym.func16, Trym.ntmps16
      go_wp2
      clear hmk heq
      go_loopw [4] (fun i wr => ∃ k : Nat, k ≤ n ∧ i = .int .i64 k ∧ Fill w wr 9 n (fun i => .string (f i)) (.string ByteArray.empty) k) (fun i _ => n - (intOf i).toNat)
      case atStart => exact ⟨0, Nat.zero_le _, rfl, Fill.start _ _ _ _ _⟩
      case round =>
        obtain ⟨k, hk, rfl, hF⟩ := hrel
        by_cases hkn : k < n
        · have g1 : wr.cell? ⟨b, off + k, none⟩ = some (.string (f k)) := (hF.below.cell (p := ⟨b, off + k, none⟩) hlt).trans (hc.out k hkn)
          have g2 : wr.cell? ⟨w.heap.size, k, none⟩ = some (.string ByteArray.empty) := by simpa using hF.row.cell hkn
          have g3 : wr.frozen? ⟨w.heap.size, k, none⟩ = false := hF.row.frozen k
          go_wp2
          go_roundw
          case rel => exact ⟨k + 1, by omega, by go_num, hF.step⟩
          case measure => simp [intOf]; omega
        · obtain rfl : k = n := by omega
          go_wp2
          go_ret
          exact ⟨_, rfl, nofun, hF.done, hF.below⟩

set_option maxHeartbeats 400000 in
theorem clone17 (a : Option Addr) (n cap : Nat) (f : Nat → Bool) (w : World) (hn : 1 * n ≤ 281474976710656) (hn' : n ≤ maxLen) (hnil : a = none → n = 0)
    (hr : Row w a n fun i => .bool (f i)) :
    Calls Trym.prog 17 #[.slice a n cap] w (Cloned w n (fun i => .bool (f i))) := by
  unfold maxLen at hn'
  have heq := fun w => Lib.run_eql_slice_nil (P := Trym.prog) w 28 4 a n cap 0 0 Trym.underlying28
  have hmk := run_make_row' (P := Trym.prog) 28 4 (.bool false) 1 Trym.underlying28 Trym.info4 rfl .i64 .i64 n hn (by omega)
  rcases a with _ | ad
  · obtain rfl : n = 0 := hnil rfl
    go_enter Trym.func17, Trym.ntmps17
    go_wp2
    go_ret
    exact ⟨none, rfl, fun _ => rfl, Or.inl rfl, Below.refl _ _⟩
  · clear hnil
    rcases hr.cases with hc | ⟨b, off, hab, hlt, hc⟩
    · clear hr
      go_enter Trym.func17, Trym.ntmps17
      go_wp2
      clear hmk heq
      go_loopw [4] (fun i wr => ∃ k : Nat, k ≤ n ∧ i = .int .i64 k ∧ Fill w wr 4 n (fun i => .bool (f i)) (.bool false) k) (fun i _ => n - (intOf i).toNat)
      case atStart => exact ⟨0, Nat.zero_le _, rfl, Fill.start _ _ _ _ _⟩
      case round =>
        obtain ⟨k, hk, rfl, hF⟩ := hrel
        by_cases hkn : k < n
        · exact (none_in hc hkn).elim
        · obtain rfl : k = n := by omega
          go_wp2
          go_ret
          exact ⟨_, rfl, nofun, hF.done, hF.below⟩
    · cases hab
      clear hr
      go_enter Trym.func17, Trym.ntmps17
      go_wp2
      clear hmk heq
      go_loopw [4] (fun i wr => ∃ k : Nat, k ≤ n ∧ i = .int .i64 k ∧ Fill w wr 4 n (fun i => .bool (f i)) (.bool false) k) (fun i _ => n - (intOf i).toNat)
      case atStart => exact ⟨0, Nat.zero_le _, rfl, Fill.start _ _ _ _ _⟩
      case round =>
        obtain ⟨k, hk, rfl, hF⟩ := hrel
        by_cases hkn : k < n
        · have g1 : wr.cell? ⟨b, off + k, none⟩ = some (.bool (f k)) := (hF.below.cell (p := ⟨b, off + k, none⟩) hlt).trans (hc.out k hkn)
          have g2 : wr.cell? ⟨w.heap.size, k, none⟩ = some (.bool false) := by simpa using hF.row.cell hkn
          have g3 : wr.frozen? ⟨w.heap.size, k, none⟩ = false := hF.row.frozen k
          go_wp2
          go_roundw
          case rel => exact ⟨k + 1, by omega, by go_num, hF.step⟩
          case measure => simp [intOf]; omega
        · obtain rfl : k = n := by omega
          go_wp2
          go_ret
          exact ⟨_, rfl, nofun, hF.done, hF.below⟩

end Go.Proofs.Qxb6602934aMods
