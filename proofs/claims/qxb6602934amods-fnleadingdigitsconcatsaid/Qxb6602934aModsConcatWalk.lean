/- The walk of FnLeadingDigitsConcat, and its plain law. -/
import Derived.Test.Qxb6602934aModsLead
import Derived.ProofKit
namespace Go.Proofs.Qxb6602934aMods.fnLeadingDigitsConcat
open Go.RowKit Go.Proofs.Qxb6602934aMods

theorem ldn_app_lt (a b : List UInt8) (h : ldn a < a.length) : ldn (a ++ b) = ldn a := by
  unfold ldn at *
  induction a with
  | nil => simp at h
  | cons x t ih =>
    simp only [List.cons_append, List.takeWhile_cons] at *
    split
    · rename_i hx
      simp only [hx, if_true, List.length_cons] at h ⊢
      rw [ih (by omega)]
    · rfl
theorem ldn_app_eq (a b : List UInt8) (h : ldn a = a.length) : ldn (a ++ b) = a.length + ldn b := by
  unfold ldn at *
  induction a with
  | nil => simp
  | cons x t ih =>
    simp only [List.cons_append, List.takeWhile_cons] at *
    split at h
    · rename_i hx
      simp only [hx, if_true, List.length_cons] at h ⊢
      rw [ih (by omega)]; omega
    · simp at h

theorem ba_ext {a b : ByteArray} (h : a.data.toList = b.data.toList) : a = b := by
  cases a; cases b; simp at h; simp [h]
theorem ldn_app_data (s t : ByteArray) : (s ++ t).data.toList = s.data.toList ++ t.data.toList := by simp
theorem len_data (s : ByteArray) : s.data.toList.length = s.size := by simp
theorem ext_data (s : ByteArray) (a b : Nat) : (s.extract a b).data.toList = (s.data.toList.take b).drop a := by
  simp [ByteArray.data_extract, List.drop_take]

theorem r_ne (s : ByteArray) (h : ldn s.data.toList < s.size) : (rPart s).data.toList ≠ [] := by
  unfold rPart; rw [ext_data]; intro h2
  have := congrArg List.length h2
  simp at this; omega
theorem r_nil (s : ByteArray) (h : ldn s.data.toList = s.size) : rPart s = ByteArray.empty := by
  apply ba_ext
  unfold rPart; rw [ext_data, h]; simp

theorem d1 (s t : ByteArray) (h : ldn s.data.toList < s.size) : dPart (s ++ t) = dPart s := by
  apply ba_ext
  have e := ldn_app_lt s.data.toList t.data.toList (by rw [len_data]; exact h)
  unfold dPart; rw [ext_data, ext_data, ldn_app_data, e]
  simp only [List.drop_zero]
  rw [List.take_append_of_le_length (by rw [len_data]; omega)]
theorem r1 (s t : ByteArray) (h : ldn s.data.toList < s.size) : rPart (s ++ t) = rPart s ++ t := by
  apply ba_ext
  have e := ldn_app_lt s.data.toList t.data.toList (by rw [len_data]; exact h)
  unfold rPart; simp only [ldn_app_data, ext_data]; rw [e, ← len_data, ← len_data, ldn_app_data, List.take_length, List.take_length, List.drop_append_of_le_length (by rw [len_data]; omega)]
theorem d2 (s t : ByteArray) (h : ldn s.data.toList = s.size) : dPart (s ++ t) = s ++ dPart t := by
  apply ba_ext
  have e := ldn_app_eq s.data.toList t.data.toList (by rw [len_data]; exact h)
  unfold dPart; simp only [ldn_app_data, ext_data]; rw [e]
  simp only [List.drop_zero]
  rw [List.take_length_add_append]
theorem r2 (s t : ByteArray) (h : ldn s.data.toList = s.size) : rPart (s ++ t) = rPart t := by
  apply ba_ext
  have e := ldn_app_eq s.data.toList t.data.toList (by rw [len_data]; exact h)
  unfold rPart; rw [ext_data, ext_data, ldn_app_data, e, ← len_data, ← len_data, ldn_app_data, List.take_length, List.take_length, List.drop_length_add_append]

theorem grown_drewN (w : World) (n : Nat) : Grown w (w.drewN n) := Grown.refl w

theorem d_size (s : ByteArray) : (dPart s).size ≤ s.size := by unfold dPart; simp; omega
theorem r_size (s : ByteArray) : (rPart s).size ≤ s.size := by unfold rPart; simp

theorem not_empty (s : ByteArray) (h : s.data.toList ≠ []) : s.toList.isEmpty = false := by
  rw [ByteArray.toList_eq]; simpa using h

set_option maxHeartbeats 400000 in
theorem walk_lt (a0 : ByteArray) (a1 : ByteArray) (w0 : a0.size ≤ maxLen) (w1 : a1.size ≤ maxLen) (w : World) (h : a0.size + a1.size ≤ 1048576) (hl : ldn a0.data.toList < a0.size) :
    Calls Trym.prog 4 #[.string a0, .string a1] w fun e w' => e = .returned (.bool true) ∧ Grown w w' := by
  have g2 : (a0 ++ a1).size ≤ maxLen := by simp [maxLen]; omega
  have s1 := r_size a0
  have n1 : (rPart a0).toList.isEmpty = false := not_empty _ (r_ne a0 hl)
  have C := fun w => zzlead_any (a0 ++ a1) w g2
  rw [d1 a0 a1 hl, r1 a0 a1 hl] at C
  have HC := hid C
  clear C
  unfold maxLen at w0 w1
  go_enter Trym.func4, Trym.ntmps4
  go_wp2_with (first | (go_at_call 12; go_in) | fail)
  refine (zzlead_any a0 w w0).mono ?_
  rintro e w' ⟨rfl, n1, rfl⟩
  go_wp2_with fail
  refine (zzlead_any a1 _ w1).mono ?_
  rintro e w' ⟨rfl, n2, rfl⟩
  go_wp2_with fail
  refine (HC.out _).mono ?_
  rintro e w' ⟨rfl, n3, rfl⟩
  go_wp2_with fail
  go_ret
  exact ⟨rfl, grown_drewN w _⟩

set_option maxHeartbeats 400000 in
theorem walk_eq (a0 : ByteArray) (a1 : ByteArray) (w0 : a0.size ≤ maxLen) (w1 : a1.size ≤ maxLen) (w : World) (h : a0.size + a1.size ≤ 1048576) (hl : ldn a0.data.toList = a0.size) :
    Calls Trym.prog 4 #[.string a0, .string a1] w fun e w' => e = .returned (.bool true) ∧ Grown w w' := by
  have g2 : (a0 ++ a1).size ≤ maxLen := by simp [maxLen]; omega
  have s1 := d_size a1
  have C := fun w => zzlead_any (a0 ++ a1) w g2
  rw [d2 a0 a1 hl, r2 a0 a1 hl] at C
  have HC := hid C
  have C1 := fun w => zzlead_any a0 w w0
  rw [r_nil a0 hl] at C1
  have HC1 := hid C1
  clear C C1 hl
  unfold maxLen at w0 w1
  go_enter Trym.func4, Trym.ntmps4
  go_wp2_with (first | (go_at_call 12; go_in) | fail)
  refine (HC1.out _).mono ?_
  rintro e w' ⟨rfl, n1, rfl⟩
  go_wp2_with fail
  refine (zzlead_any a1 _ w1).mono ?_
  rintro e w' ⟨rfl, n2, rfl⟩
  go_wp2_with fail
  refine (HC.out _).mono ?_
  rintro e w' ⟨rfl, n3, rfl⟩
  go_wp2_with fail
  go_ret
  exact ⟨rfl, grown_drewN w _⟩

set_option maxHeartbeats 400000 in
theorem walk_out (a0 : ByteArray) (a1 : ByteArray) (w0 : a0.size ≤ maxLen) (w1 : a1.size ≤ maxLen) (w : World) (h : 1048576 < a0.size + a1.size) :
    Calls Trym.prog 4 #[.string a0, .string a1] w fun e w' => e = .returned (.bool true) ∧ Grown w w' := by
  unfold maxLen at w0 w1
  go_enter Trym.func4, Trym.ntmps4
  go_wp2
  all_goals go_ret
  all_goals exact ⟨rfl, Grown.refl _⟩

theorem walk (a0 : ByteArray) (a1 : ByteArray) (w0 : a0.size ≤ maxLen) (w1 : a1.size ≤ maxLen) (w : World) :
    Calls Trym.prog 4 #[.string a0, .string a1] w fun e w' => e = .returned (.bool true) ∧ Grown w w' := by
  by_cases h : a0.size + a1.size ≤ 1048576
  · by_cases hl : ldn a0.data.toList < a0.size
    · exact walk_lt a0 a1 w0 w1 w h hl
    · have := ldn_le a0.data.toList
      rw [len_data] at this
      exact walk_eq a0 a1 w0 w1 w h (by omega)
  · exact walk_out a0 a1 w0 w1 w (by omega)

end Go.Proofs.Qxb6602934aMods.fnLeadingDigitsConcat
