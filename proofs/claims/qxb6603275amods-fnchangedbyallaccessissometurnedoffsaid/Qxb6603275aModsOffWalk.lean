/- The walk of FnChangedByAllAccessIsSomeTurnedOff. -/
import Derived.Test.Qxb6603275aModsChg
namespace Go.Proofs.Qxb6603275aMods.fnChangedByAllAccessIsSomeTurnedOff
open Go.RowKit Go.Maps Go.Proofs.Qxb6603275aMods
set_option linter.unusedVariables false

/-- Does V turn one of the first k permissions off? -/
def off (V : Nat → Option Bool) : Nat → Bool
  | 0 => false
  | k + 1 => off V k || (V k == some false)
theorem off_iff (V : Nat → Option Bool) (k : Nat) : off V k = true ↔ ∃ p, p < k ∧ V p = some false := by
  induction k with
  | zero => simp [off]
  | succ k ih =>
    simp only [off, Bool.or_eq_true, ih, beq_iff_eq]
    constructor
    · rintro (⟨p, h1, h2⟩ | h)
      · exact ⟨p, by omega, h2⟩
      · exact ⟨k, by omega, h⟩
    · rintro ⟨p, h1, h2⟩
      by_cases e : p = k
      · subst e; exact Or.inr h2
      · exact Or.inl ⟨p, by omega, h2⟩
theorem chB_off (V : Nat → Option Bool) : chB (fun _ => true) V = off V 14 := by
  cases h : off V 14
  · refine chB_no fun p hp v hv => ?_
    cases v
    · have := (off_iff V 14).2 ⟨p, hp, hv⟩
      rw [h] at this; cases this
    · rfl
  · obtain ⟨p, hp, hv⟩ := (off_iff V 14).1 h
    exact chB_yes hp hv

set_option maxHeartbeats 400000 in
theorem walk (V : Nat → Option Bool) (ref : Option Nat) (w : World) (h : MapIn 3 w ref V) :
    Calls Trym.prog 4 #[.map ref] w fun e w' => e = .returned (.bool true) ∧ Below w.heap.size w w' := by
  obtain ⟨n, hlen⟩ := len_at Trym.underlying23 h
  have H0 := hid' h
  clear h
  by_cases hn : 65536 < n
  · go_enter Trym.func4, Trym.ntmps4
    go_wp2_with fail
    go_ret
    exact ⟨rfl, Below.refl _ _⟩
  · go_enter Trym.func4, Trym.ntmps4
    go_wp2_with fail
    clear hlen
    refine (valid6 ref V _ H0.out).mono ?_
    rintro e w1 ⟨⟨r, rfl⟩, rfl⟩
    cases r
    · go_wp2_with fail
      go_ret
      exact ⟨rfl, Below.refl _ _⟩
    go_wp2_with fail
    refine (clone7 ref V _ H0.out).mono ?_
    rintro e w1 ⟨r1, rfl, hm1, hb1⟩
    have HM1 := hid' hm1
    have HB1 := hid' hb1
    clear hm1 hb1
    go_wp2_with fail
    refine (to8 r1 V _ HM1.out.toIn).mono ?_
    rintro e w2 ⟨r2, rfl, hm2, hb2⟩
    have HB2 := hid' (HB1.out.trans (hb2.mono HB1.out.size))
    have HM2 := hid' hm2
    clear hm2 hb2
    go_wp2_with fail
    go_loop [4, 5] (fun x i => ∃ k : Nat, k ≤ 14 ∧ i = .int .i64 k ∧ x = .bool (off V k)) (fun _ i => 14 - (intOf i).toNat)
    case atStart => exact ⟨0, Nat.zero_le _, rfl, rfl⟩
    case round =>
      obtain ⟨k, hk, rfl, rfl⟩ := hrel
      by_cases hkn : k < 14
      · have hl := look_at Trym.underlying27 law30 key30 HM2.out.toIn hkn
        cases hV : V k with
        | none =>
          rw [hV] at hl
          have HO : Hid (off V (k + 1) = off V k) := hid' (by simp [off, hV])
          clear hV
          go_wp2
          go_round
          case rel => exact ⟨k + 1, by omega, by go_num, by rw [HO.out]⟩
          case measure => simp [intOf]; omega
        | some v =>
          rw [hV] at hl
          cases v
          · have HO : Hid (off V (k + 1) = true) := hid' (by simp [off, hV])
            clear hV
            go_wp2
            go_round
            case rel => exact ⟨k + 1, by omega, by go_num, by rw [HO.out]⟩
            case measure => simp [intOf]; omega
          · have HO : Hid (off V (k + 1) = off V k) := hid' (by simp [off, hV])
            clear hV
            go_wp2
            go_round
            case rel => exact ⟨k + 1, by omega, by go_num, by rw [HO.out]⟩
            case measure => simp [intOf]; omega
      · obtain rfl : k = 14 := by omega
        go_wp2_with fail
        refine (all10 _).mono ?_
        rintro e w3 ⟨rfl, hb3⟩
        have HM3 := hid' (HM2.out.below hb3)
        have HB3 := hid' (HB2.out.trans (hb3.mono HB2.out.size))
        clear hb3
        go_wp2_with fail
        refine (zzchg9 (fun _ => true) V r2 _ HM3.out).mono ?_
        rintro e w4 ⟨he, hb4⟩
        rw [chB_off] at he
        subst he
        have HB4 := hid' (HB3.out.trans (hb4.mono HB3.out.size))
        clear hb4
        go_wp2_with fail
        go_ret
        exact ⟨rfl, HB4.out⟩

end Go.Proofs.Qxb6603275aMods.fnChangedByAllAccessIsSomeTurnedOff
