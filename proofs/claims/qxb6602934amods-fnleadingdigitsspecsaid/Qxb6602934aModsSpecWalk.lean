/- The walk of FnLeadingDigitsSpec, and its plain law. -/
import Derived.Test.Qxb6602934aModsLead
import Derived.ProofKit
namespace Go.Proofs.Qxb6602934aMods.fnLeadingDigitsSpec
open Go.RowKit Go.Proofs.Qxb6602934aMods

theorem grown_drewN (w : World) (n : Nat) : Grown w (w.drewN n) := Grown.refl w
theorem len_data (s : ByteArray) : s.data.toList.length = s.size := by simp

set_option maxHeartbeats 400000 in
theorem walk_out (a0 : ByteArray) (w0 : a0.size ≤ maxLen) (w : World) (h : 1048576 < a0.size) :
    Calls Trym.prog 3 #[.string a0] w fun e w' => e = .returned (.bool true) ∧ Grown w w' := by
  unfold maxLen at w0
  go_enter Trym.func3, Trym.ntmps3
  go_wp2
  all_goals go_ret
  all_goals exact ⟨rfl, Grown.refl _⟩

theorem tw_at (l : List UInt8) (k : Nat) (h : k < (l.takeWhile digB).length) (h2 : k < l.length) : digB l[k] = true := by
  induction l generalizing k with
  | nil => simp at h
  | cons x t ih =>
    simp only [List.takeWhile_cons] at h
    split at h
    · cases k with
      | zero => simpa
      | succ k => simp at h h2; simpa using ih k h h2
    · simp at h
theorem tw_stop (l : List UInt8) (h2 : (l.takeWhile digB).length < l.length) : digB l[(l.takeWhile digB).length] = false := by
  induction l with
  | nil => simp at h2
  | cons x t ih =>
    by_cases hx : digB x = true
    · simp only [List.takeWhile_cons, hx, if_true, List.length_cons] at h2 ⊢
      simpa using ih (by omega)
    · simp [hx]

theorem no_of (s : ByteArray) (n : Nat) (hn : ldn s.data.toList = n) (hk : 0 < (s.extract n s.size).size) : digB (s.extract n s.size)[0] = false := by
  subst hn
  have h1 : ldn s.data.toList < s.size := by simp at hk; omega
  have h2 : (s.extract (ldn s.data.toList) s.size)[0] = s[ldn s.data.toList] := by simp [ByteArray.getElem_extract]
  rw [h2]
  exact tw_stop s.data.toList (by simpa [ldn] using h1)

theorem yes_of (s : ByteArray) (n : Nat) (hn : ldn s.data.toList = n) (k : Nat) (hk : k < (s.extract 0 n).size) : digB (s.extract 0 n)[k] = true := by
  have h1 : k < ldn s.data.toList := by rw [hn]; simp at hk; omega
  have h2 : (s.extract 0 n)[k] = s[k]'(by simp at hk; omega) := by simp [ByteArray.getElem_extract]
  rw [h2]
  unfold ldn at h1
  exact tw_at s.data.toList k h1 (by simp at hk; simp; omega)

theorem isDigit_yes (c : UInt8) (w : World) (h : digB c = true) :
    Calls Trym.prog 11 #[.int .u8 c.toNat] w fun e w' => e = .returned (.bool true) ∧ w' = w := by
  rw [← h]; exact isDigit_any c w
theorem isDigit_no (c : UInt8) (w : World) (h : digB c = false) :
    Calls Trym.prog 11 #[.int .u8 c.toNat] w fun e w' => e = .returned (.bool false) ∧ w' = w := by
  rw [← h]; exact isDigit_any c w

set_option maxHeartbeats 400000 in
theorem walk_in (a0 : ByteArray) (w0 : a0.size ≤ maxLen) (w : World) (h : a0.size ≤ 1048576) :
    Calls Trym.prog 3 #[.string a0] w fun e w' => e = .returned (.bool true) ∧ Grown w w' := by
  have C := fun w => zzlead_any a0 w w0
  have hn := ldn_le a0.data.toList
  rw [len_data] at hn
  unfold maxLen at w0
  unfold dPart rPart at C
  have HY : Hid (∀ n, ldn a0.data.toList = n → ∀ k (hk : k < (a0.extract 0 n).size), digB (a0.extract 0 n)[k] = true) := yes_of a0
  have HN : Hid (∀ n, ldn a0.data.toList = n → ∀ (hk : 0 < (a0.extract n a0.size).size), digB (a0.extract n a0.size)[0] = false) := no_of a0
  generalize hl : ldn a0.data.toList = n at C hn
  have HL := hid hl
  have HC := hid C
  have hlt : ¬ a0.size < n := by omega
  have hne : ((n : Int) + ((a0.size - n : Nat) : Int) != (a0.size : Int)) = false := by simp; omega
  clear C hl
  go_enter Trym.func3, Trym.ntmps3
  go_wp2_with (first | (go_at_call 9; go_in) | fail)
  refine (HC.out _).mono ?_
  rintro e w' ⟨rfl, n1, rfl⟩
  go_wp2_with fail
  go_loop [5] (fun i => ∃ k : Nat, k ≤ n ∧ i = .int .i64 k) (fun i => n - (intOf i).toNat)
  case atStart => exact ⟨0, Nat.zero_le _, rfl⟩
  case round =>
    obtain ⟨k, hk, rfl⟩ := hrel
    by_cases hkn : k < n
    · go_wp2_with fail
      refine (isDigit_yes _ _ (HY.out n HL.out k (by simp; omega))).mono ?_
      rintro e w' ⟨rfl, rfl⟩
      go_wp2_with fail
      go_round
      case rel => exact ⟨k + 1, by omega, by go_num⟩
      case measure => simp [intOf]; omega
    · go_wp2_with fail
      · refine (isDigit_no _ _ (HN.out n HL.out (by simp; omega))).mono ?_
        rintro e w' ⟨rfl, rfl⟩
        go_wp2_with fail
        go_ret
        exact ⟨rfl, grown_drewN _ _⟩
      · go_ret
        exact ⟨rfl, grown_drewN _ _⟩

theorem walk (a0 : ByteArray) (w0 : a0.size ≤ maxLen) (w : World) :
    Calls Trym.prog 3 #[.string a0] w fun e w' => e = .returned (.bool true) ∧ Grown w w' := by
  by_cases h : a0.size ≤ 1048576
  · exact walk_in a0 w0 w h
  · exact walk_out a0 w0 w (by omega)

end Go.Proofs.Qxb6602934aMods.fnLeadingDigitsSpec
