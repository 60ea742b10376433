/- zzColumns. -/
import Derived.Test.Qxb6602934aModsClone
import Derived.RegionTactic
import Derived.ChangeAlike
namespace Go.Proofs.Qxb6602934aMods
open Go.RowKit
set_option linter.unusedVariables false

theorem Trym.info54 : (Trym.prog.info? 54).map (fun i => (i.zero, i.size, i.bytes)) = some (some (.agg #[.string ByteArray.empty, .bool false]), 2, 24) := by kernel_rfl

def zcol : Array Value := #[.string ByteArray.empty, .bool false]
theorem make_cols (n : Nat) (hn : n ≤ 1048576) (w : World) : (Instr.makeSlice 47 (.int .i64 (n : Int)) (.int .i64 (n : Int))).run Trym.prog w = .ok (.slice (some ⟨w.heap.size, 0, none⟩) n n) (w.alloc (.cells (madeCells zcol (n * 2)) 54)) := by
  obtain ⟨i, hi, hzz⟩ := Option.map_eq_some_iff.1 Trym.info54
  simp only [Prod.mk.injEq] at hzz
  obtain ⟨hz, hs, hb⟩ := hzz
  have hr := run_make (P := Trym.prog) w 47 54 i _ Trym.underlying47 hi hz .i64 .i64 n n (by omega) (Int.le_refl _) (by rw [hb]; omega) (by omega)
  simpa [hs, Value.cells, zcol] using hr

/-- A row of columns, cell by cell. -/
def colV (f : Nat → ByteArray) (g : Nat → Bool) (j : Nat) : Value := if j % 2 = 0 then .string (f (j / 2)) else .bool (g (j / 2))
def Cols (w : World) (a : Option Addr) (n : Nat) (f : Nat → ByteArray) (g : Nat → Bool) : Prop :=
  n = 0 ∨ ∃ b off, a = some ⟨b, off, none⟩ ∧ b < w.heap.size ∧ ∀ i, i < n → w.cell? ⟨b, off + i * 2, none⟩ = some (.string (f i)) ∧ w.cell? ⟨b, off + i * 2 + 1, none⟩ = some (.bool (g i))

structure FillC (w wr : World) (n : Nat) (f : Nat → ByteArray) (g : Nat → Bool) (k : Nat) : Prop where
  row : wr.rowIs w.heap.size 54 (n * 2) (fun j => if j < k * 2 then colV f g j else if j % 2 = 0 then .string ByteArray.empty else .bool false)
  below : Below w.heap.size w wr

theorem FillC.start (w : World) (n : Nat) (f : Nat → ByteArray) (g : Nat → Bool) : FillC w (w.alloc (.cells (madeCells zcol (n * 2)) 54)) n f g 0 := by
  refine ⟨?_, (Below.refl _ _).alloc (Nat.le_refl _) _⟩
  have := World.rowIs_alloc w (madeCells zcol (n * 2)) 54 (fun j => if j % 2 = 0 then .string ByteArray.empty else .bool false) (fun i hi => by
    rw [size_madeCells] at hi
    simp only [madeCells, Array.getElem?_map]
    rw [Array.getElem?_eq_getElem (by simpa using hi)]
    simp only [Array.getElem_range, Option.map_some, zcol]
    rcases Nat.mod_two_eq_zero_or_one i with h | h <;> simp [h])
  rw [size_madeCells] at this
  exact this.congr (fun j _ => by simp)

def ColsMade (w : World) (n : Nat) (f : Nat → ByteArray) (g : Nat → Bool) (e : Ending) (w' : World) : Prop :=
  ∃ a', e = .returned (.slice a' n n) ∧ Cols w' a' n f g ∧ Below w.heap.size w w'

theorem FillC.step {w wr : World} {n : Nat} {f : Nat → ByteArray} {g : Nat → Bool} {k : Nat} (h : FillC w wr n f g k) :
    FillC w ((wr.setCell ⟨w.heap.size, k * 2, none⟩ (.string (f k))).setCell ⟨w.heap.size, k * 2 + 1, none⟩ (.bool (g k))).drew n f g (k + 1) := by
  refine ⟨(((h.row.set (k * 2) _).set (k * 2 + 1) _).congr (fun i _ => ?_)).drew, ((h.below.setCell (Nat.le_refl _) _).setCell (Nat.le_refl _) _).drew⟩
  by_cases e1 : i = k * 2 + 1
  · subst e1
    have h1 : (k * 2 + 1) / 2 = k := by omega
    have h2 : ¬ (k * 2 + 1) % 2 = 0 := by omega
    rw [if_pos rfl, if_pos (by omega), colV, if_neg h2, h1]
  · rw [if_neg e1]
    by_cases e2 : i = k * 2
    · subst e2
      have h1 : (k * 2) / 2 = k := by omega
      have h2 : (k * 2) % 2 = 0 := by omega
      rw [if_pos rfl, if_pos (by omega), colV, if_pos h2, h1]
    · rw [if_neg e2]
      by_cases e3 : i < k * 2
      · rw [if_pos e3, if_pos (by omega)]
      · rw [if_neg e3, if_neg (show ¬ i < (k + 1) * 2 by omega)]

theorem FillC.done {w wr : World} {n : Nat} {f : Nat → ByteArray} {g : Nat → Bool} (h : FillC w wr n f g n) : Cols wr (some ⟨w.heap.size, 0, none⟩) n f g := by
  refine Or.inr ⟨_, _, rfl, h.row.lt, fun i hi => ⟨?_, ?_⟩⟩
  · rw [Nat.zero_add, h.row.cell (i := i * 2) (by omega), if_pos (by omega), colV, if_pos (by omega)]
    rw [show i * 2 / 2 = i by omega]
  · rw [Nat.zero_add, h.row.cell (i := i * 2 + 1) (by omega), if_pos (by omega), colV, if_neg (by omega)]
    rw [show (i * 2 + 1) / 2 = i by omega]

set_option maxHeartbeats 400000 in
theorem cols32_none (a : Option Addr) (n cap : Nat) (f : Nat → ByteArray) (a1 : Option Addr) (cap1 : Nat) (g : Nat → Bool) (w : World) (hn : n ≤ 1048576) (hc : Hid (n = 0)) :
    Calls Trym.prog 32 #[.slice a n cap, .slice a1 n cap1] w (ColsMade w n f g) := by
  have hmk := make_cols n hn
  go_enter Trym.func32, Trym.ntmps32
  go_wp2
  clear hmk
  go_loopw [6] (fun i wr => ∃ k : Nat, k ≤ n ∧ i = .int .i64 k ∧ FillC w wr n f g k) (fun i _ => n - (intOf i).toNat)
  case atStart => exact ⟨0, Nat.zero_le _, rfl, FillC.start _ _ _ _⟩
  case round =>
    obtain ⟨k, hk, rfl, hF⟩ := hrel
    by_cases hkn : k < n
    · exact (none_in hc hkn).elim
    · obtain rfl : k = n := by omega
      go_wp2
      go_ret
      exact ⟨_, rfl, hF.done, hF.below⟩

set_option maxHeartbeats 400000 in
theorem cols32 (a : Option Addr) (n cap : Nat) (f : Nat → ByteArray) (a1 : Option Addr) (cap1 : Nat) (g : Nat → Bool) (w : World) (hn : n ≤ 1048576)
    (hr : Row w a n fun i => .string (f i)) (hr1 : Row w a1 n fun i => .bool (g i)) :
    Calls Trym.prog 32 #[.slice a n cap, .slice a1 n cap1] w (ColsMade w n f g) := by
  rcases hr.cases with hc | ⟨b, off, rfl, hlt, hc⟩
  · exact cols32_none a n cap f a1 cap1 g w hn hc
  · rcases hr1.cases with hc1 | ⟨b1, off1, rfl, hlt1, hc1⟩
    · exact cols32_none _ n cap f a1 cap1 g w hn hc1
    have hmk := make_cols n hn
    clear hr hr1
    go_enter Trym.func32, Trym.ntmps32
    go_wp2
    clear hmk
    go_loopw [6] (fun i wr => ∃ k : Nat, k ≤ n ∧ i = .int .i64 k ∧ FillC w wr n f g k) (fun i _ => n - (intOf i).toNat)
    case atStart => exact ⟨0, Nat.zero_le _, rfl, FillC.start _ _ _ _⟩
    case round =>
      obtain ⟨k, hk, rfl, hF⟩ := hrel
      by_cases hkn : k < n
      · have g1 : wr.cell? ⟨b, off + k, none⟩ = some (.string (f k)) := (hF.below.cell (p := ⟨b, off + k, none⟩) hlt).trans (hc.out k hkn)
        have g2 : wr.cell? ⟨b1, off1 + k, none⟩ = some (.bool (g k)) := (hF.below.cell (p := ⟨b1, off1 + k, none⟩) hlt1).trans (hc1.out k hkn)
        have g3 : wr.cell? ⟨w.heap.size, k * 2, none⟩ = some (.string ByteArray.empty) := by have := hF.row.cell (i := k * 2) (by omega); rw [this]; simp
        have g4 : wr.cell? ⟨w.heap.size, k * 2 + 1, none⟩ = some (.bool false) := by have := hF.row.cell (i := k * 2 + 1) (by omega); rw [this]; simp; omega
        have g5 : ∀ j, wr.frozen? ⟨w.heap.size, j, none⟩ = false := fun j => hF.row.frozen j
        go_wp2
        go_region
        go_wp2
        go_roundw
        case rel => exact ⟨k + 1, by omega, by go_num, hF.step⟩
        case measure => simp [intOf]; omega
      · obtain rfl : k = n := by omega
        go_wp2
        go_ret
        exact ⟨_, rfl, hF.done, hF.below⟩

end Go.Proofs.Qxb6602934aMods
