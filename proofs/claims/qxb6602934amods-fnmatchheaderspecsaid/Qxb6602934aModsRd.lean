/- Rows of cells that are read; the length guards and 'spend'. -/
import Derived.Test.Qxb6602934aModsRows
import Derived.WalkKit
import Derived.WalkSpells
import Derived.WalkLawsBesides
import Derived.Deep.QuietTactic
import Derived.BigQuiet
import Derived.Deep.OwnRows
namespace Go.Proofs.Qxb6602934aMods
open Go.RowKit
set_option linter.unusedVariables false

theorem hid' {p : Prop} (h : p) : Hid p := h

/-- The slice with address a and length n reads as V 0, .., V (n - 1). -/
def Row (w : World) (a : Option Addr) (n : Nat) (V : Nat → Value) : Prop :=
  n = 0 ∨ ∃ b off, a = some ⟨b, off, none⟩ ∧ b < w.heap.size ∧ ∀ i, i < n → w.cell? ⟨b, off + i, none⟩ = some (V i)

theorem Row.below {B : Nat} {w w' : World} {a : Option Addr} {n : Nat} {V : Nat → Value} (h : Row w a n V) (hb : Below B w w') (hB : w.heap.size ≤ B) : Row w' a n V := by
  rcases h with h | ⟨b, off, rfl, hlt, hc⟩
  · exact Or.inl h
  · exact Or.inr ⟨b, off, rfl, Nat.lt_of_lt_of_le hlt hb.size, fun i hi => (hb.cell (p := ⟨b, off + i, none⟩) (Nat.lt_of_lt_of_le hlt hB)).trans (hc i hi)⟩

def RetBool (e : Ending) : Prop := ∃ r : Bool, e = .returned (.bool r)
def RetInt (e : Ending) : Prop := ∃ r : Int, e = .returned (.int .i64 r)
theorem retBool (r : Bool) : RetBool (.returned (.bool r)) := ⟨r, rfl⟩
theorem retInt (r : Int) : RetInt (.returned (.int .i64 r)) := ⟨r, rfl⟩

/-- The two forms in which a walk meets a row: nothing is read, or the address is written out. -/
theorem Row.cases {w : World} {a : Option Addr} {n : Nat} {V : Nat → Value} (h : Row w a n V) : Hid (n = 0) ∨ ∃ b off, a = some ⟨b, off, none⟩ ∧ b < w.heap.size ∧ Hid (∀ i, i < n → w.cell? ⟨b, off + i, none⟩ = some (V i)) := h
theorem none_in {n k : Nat} (h : Hid (n = 0)) (hk : k < n) : False := by have := h.out; omega

set_option maxHeartbeats 400000 in
theorem bytes29 (a : Option Addr) (n cap : Nat) (f : Nat → ByteArray) (a1 : Option Addr) (n1 cap1 : Nat) (w : World) (hn : n ≤ maxLen) (hn1 : n1 ≤ maxLen)
    (hr : Row w a n fun i => .string (f i)) :
    Calls Trym.prog 29 #[.slice a n cap, .slice a1 n1 cap1] w fun e w' => RetBool e ∧ w' = w := by
  unfold maxLen at hn hn1
  by_cases hbig : 1048576 < n
  · go_enter Trym.func29, Trym.ntmps29
    go_wp2
    go_ret
    exact ⟨retBool _, rfl⟩
  · rcases hr.cases with hc | ⟨b, off, rfl, hlt, hc⟩
    all_goals
      clear hr
      go_enter Trym.func29, Trym.ntmps29
      go_wp2
      go_loop [5, 6] (fun z i => (∃ q : Int, z = .int .i64 q) ∧ ∃ k : Nat, k ≤ n ∧ i = .int .i64 k) (fun _ i => n - (intOf i).toNat)
      case atStart => exact ⟨⟨_, rfl⟩, 0, Nat.zero_le _, rfl⟩
      case round =>
        obtain ⟨⟨q, rfl⟩, k, hk, rfl⟩ := hrel
        by_cases hkn : k < n
        · first
            | exact (none_in hc hkn).elim
            | (have hck := hc.out k hkn
               go_wp2
               · go_ret
                 exact ⟨retBool _, rfl⟩
               · go_ret
                 exact ⟨retBool _, rfl⟩
               · go_round
                 case rel => exact ⟨⟨_, rfl⟩, k + 1, by omega, by go_num⟩
                 case measure => simp [intOf]; omega)
        · go_wp2
          all_goals go_ret
          all_goals exact ⟨retBool _, rfl⟩

set_option maxHeartbeats 400000 in
theorem spend14 (z0 : Int) (a : Option Addr) (n cap : Nat) (f : Nat → ByteArray) (w : World) (hn : n ≤ maxLen)
    (hr : Row w a n fun i => .string (f i)) :
    Calls Trym.prog 14 #[.int .i64 z0, .slice a n cap] w fun e w' => RetInt e ∧ w' = w := by
  unfold maxLen at hn
  by_cases hz : z0 < 0
  · go_enter Trym.func14, Trym.ntmps14
    go_wp2
    go_ret
    exact ⟨retInt _, rfl⟩
  · rcases hr.cases with hc | ⟨b, off, rfl, hlt, hc⟩
    all_goals
      clear hr
      go_enter Trym.func14, Trym.ntmps14
      go_wp2
      go_loop [0, 5] (fun z i => (∃ q : Int, z = .int .i64 q) ∧ ∃ k : Nat, k ≤ n ∧ i = .int .i64 k) (fun _ i => n - (intOf i).toNat)
      case atStart => exact ⟨⟨_, rfl⟩, 0, Nat.zero_le _, rfl⟩
      case round =>
        obtain ⟨⟨q, rfl⟩, k, hk, rfl⟩ := hrel
        by_cases hkn : k < n
        · first
            | exact (none_in hc hkn).elim
            | (have hck := hc.out k hkn
               go_wp2
               · go_ret
                 exact ⟨retInt _, rfl⟩
               · go_round
                 case rel => exact ⟨⟨_, rfl⟩, k + 1, by omega, by go_num⟩
                 case measure => simp [intOf]; omega
               · go_ret
                 exact ⟨retInt _, rfl⟩)
        · go_wp2
          all_goals go_ret
          all_goals exact ⟨retInt _, rfl⟩

set_option maxHeartbeats 800000 in
theorem bytes24 (a : Option Addr) (n cap : Nat) (f : Nat → ByteArray) (a1 : Option Addr) (n1 cap1 : Nat) (a2 : Option Addr) (n2 cap2 : Nat) (f2 : Nat → ByteArray) (w : World)
    (hn : n ≤ maxLen) (hn1 : n1 ≤ maxLen) (hn2 : n2 ≤ maxLen) (hr : Row w a n fun i => .string (f i)) (hr2 : Row w a2 n2 fun i => .string (f2 i)) :
    Calls Trym.prog 24 #[.slice a n cap, .slice a1 n1 cap1, .slice a2 n2 cap2] w fun e w' => RetBool e ∧ w' = w := by
  unfold maxLen at hn hn1 hn2
  by_cases hbig : 1048576 < n
  · go_enter Trym.func24, Trym.ntmps24
    go_wp2
    go_ret
    exact ⟨retBool _, rfl⟩
  · rcases hr.cases with hc | ⟨b, off, rfl, hlt, hc⟩ <;> rcases hr2.cases with hc2 | ⟨b2, off2, rfl, hlt2, hc2⟩
    all_goals
      clear hr hr2
      go_enter Trym.func24, Trym.ntmps24
      go_wp2
      go_loop [7, 8] (fun z i => (∃ q : Int, z = .int .i64 q) ∧ ∃ k : Nat, k ≤ n ∧ i = .int .i64 k) (fun _ i => n - (intOf i).toNat)
      case atStart => exact ⟨⟨_, rfl⟩, 0, Nat.zero_le _, rfl⟩
      case round =>
        obtain ⟨⟨q, rfl⟩, k, hk, rfl⟩ := hrel
        by_cases hkn : k < n
        · first
            | exact (none_in hc hkn).elim
            | (have hck := hc.out k hkn
               go_wp2
               · go_ret
                 exact ⟨retBool _, rfl⟩
               · go_ret
                 exact ⟨retBool _, rfl⟩
               · go_round
                 case rel => exact ⟨⟨_, rfl⟩, k + 1, by omega, by go_num⟩
                 case measure => simp [intOf]; omega)
        · go_wp2
          · go_ret
            exact ⟨retBool _, rfl⟩
          · go_ret
            exact ⟨retBool _, rfl⟩
          · go_ret
            exact ⟨retBool _, rfl⟩
          · go_ret
            exact ⟨retBool _, rfl⟩
          · go_loop [7, 9] (fun z i => (∃ q : Int, z = .int .i64 q) ∧ ∃ k : Nat, k ≤ n2 ∧ i = .int .i64 k) (fun _ i => n2 - (intOf i).toNat)
            case atStart => exact ⟨⟨_, rfl⟩, 0, Nat.zero_le _, rfl⟩
            case round =>
              obtain ⟨⟨q, rfl⟩, k, hk, rfl⟩ := hrel
              by_cases hkn : k < n2
              · first
                  | exact (none_in hc2 hkn).elim
                  | (have hck := hc2.out k hkn
                     go_wp2
                     · go_ret
                       exact ⟨retBool _, rfl⟩
                     · go_ret
                       exact ⟨retBool _, rfl⟩
                     · go_round
                       case rel => exact ⟨⟨_, rfl⟩, k + 1, by omega, by go_num⟩
                       case measure => simp [intOf]; omega)
              · go_wp2
                all_goals go_ret
                all_goals exact ⟨retBool _, rfl⟩

end Go.Proofs.Qxb6602934aMods
