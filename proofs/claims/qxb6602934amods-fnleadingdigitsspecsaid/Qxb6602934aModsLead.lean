/- The walks of leadingDigits, ZZLeadingDigits, isDigit and the two length guards. -/
import Derived.Test.Qxb6602934aModsRows
import Derived.WalkKit
import Derived.WalkSpells
import Derived.WalkLawsBesides
import Derived.Deep.QuietTactic
import Derived.BigQuiet
namespace Go.Proofs.Qxb6602934aMods
open Go.RowKit

theorem hid {p : Prop} (h : p) : Hid p := h
def digB (c : UInt8) : Bool := decide (48 ≤ c.toNat) && decide (c.toNat ≤ 57)
def ldn (l : List UInt8) : Nat := (l.takeWhile digB).length
theorem ldn_le (l : List UInt8) : ldn l ≤ l.length := by
  unfold ldn; induction l with
  | nil => simp
  | cons a t ih => simp only [List.takeWhile_cons]; split <;> simp <;> omega

theorem ldn_stop (l : List UInt8) (k : Nat) (hk : k < l.length) (hd : ∀ j (h : j < l.length), j < k → digB l[j] = true) (hn : digB l[k] = false) : ldn l = k := by
  unfold ldn
  induction l generalizing k with
  | nil => simp at hk
  | cons a t ih =>
    cases k with
    | zero => simp at hn; simp [hn]
    | succ k =>
      have h0 := hd 0 (by simp) (by omega)
      simp at h0
      simp only [List.takeWhile_cons, h0, if_true, List.length_cons]
      rw [ih k (by simpa using hk) (fun j h hj => by have := hd (j+1) (by simpa using h) (by omega); simpa using this) (by simpa using hn)]

theorem ldn_all (l : List UInt8) (hd : ∀ j (h : j < l.length), digB l[j] = true) : ldn l = l.length := by
  unfold ldn
  induction l with
  | nil => rfl
  | cons a t ih =>
    have h0 := hd 0 (by simp)
    simp at h0
    simp only [List.takeWhile_cons, h0, if_true, List.length_cons]
    rw [ih (fun j h => by have := hd (j+1) (by simpa using h); simpa using this)]

theorem dig_more (s : ByteArray) (k : Nat) (hk : k < s.size) (hd : ∀ j (h : j < s.data.toList.length), j < k → digB s.data.toList[j] = true) (h1 : (48 : Int) ≤ (s[k].toNat : Int)) (h2 : (s[k].toNat : Int) ≤ 57) :
    ∀ j (h : j < s.data.toList.length), j < k + 1 → digB s.data.toList[j] = true := by
  intro j h hj
  by_cases e : j < k
  · exact hd j h e
  · obtain rfl : j = k := by omega
    show digB s[j] = true
    simp only [digB, Bool.and_eq_true, decide_eq_true_eq]; omega
theorem ldn_at (s : ByteArray) (k : Nat) (hk : k < s.size) (hd : ∀ j (h : j < s.data.toList.length), j < k → digB s.data.toList[j] = true) (h1 : (s[k].toNat : Int) < 48 ∨ (57 : Int) < (s[k].toNat : Int)) :
    ldn s.data.toList = k := by
  refine ldn_stop _ k (by simpa using hk) hd ?_
  show digB s[k] = false
  rw [Bool.eq_false_iff]
  simp only [digB, ne_eq, Bool.and_eq_true, decide_eq_true_eq]; omega
theorem ldn_end (s : ByteArray) (k : Nat) (hk : k ≤ s.size) (hn : ¬ k < s.size) (hd : ∀ j (h : j < s.data.toList.length), j < k → digB s.data.toList[j] = true) :
    ldn s.data.toList = k := by
  have hl : s.data.toList.length = s.size := by simp
  rw [ldn_all _ (fun j h => hd j h (by omega))]; omega

set_option maxHeartbeats 400000 in
theorem lead_any (s : ByteArray) (w : World) (hs : s.size ≤ maxLen) :
    Calls Trym.prog 30 #[.string s] w fun e w' => e = .returned (.tuple #[.string (s.extract 0 (ldn s.data.toList)), .string (s.extract (ldn s.data.toList) s.size)]) ∧ ∃ n, w' = w.drewN n := by
  unfold maxLen at hs
  go_enter Trym.func30, Trym.ntmps30
  go_wp2
  go_loop [4] (fun i => ∃ k : Nat, k ≤ s.size ∧ i = .int .i64 k ∧ ∀ j (h : j < s.data.toList.length), j < k → digB s.data.toList[j] = true) (fun i => s.size - (intOf i).toNat)
  case atStart => exact ⟨0, Nat.zero_le _, rfl, fun j h hj => by omega⟩
  case round =>
    obtain ⟨k, hk, rfl, hdg⟩ := hrel
    have HD : Hid (∀ j (h : j < s.data.toList.length), j < k → digB s.data.toList[j] = true) := hdg
    clear hdg
    go_wp2
    · go_round
      case rel => exact ⟨k + 1, by omega, by go_num, dig_more s k ‹_› HD.out ‹_› ‹_›⟩
      case measure => simp [intOf]; omega
    · have HE : Hid (ldn s.data.toList = k) := ldn_at s k ‹_› HD.out (Or.inr ‹_›)
      go_quiet (fail)
      go_wp2
      go_ret2
      exact ⟨by rw [HE.out]; rfl, _, rfl⟩
    · have HE : Hid (ldn s.data.toList = k) := ldn_at s k ‹_› HD.out (Or.inl ‹_›)
      go_quiet (fail)
      go_wp2
      go_ret2
      exact ⟨by rw [HE.out]; rfl, _, rfl⟩
    · have HE : Hid (ldn s.data.toList = k) := ldn_end s k hk ‹_› HD.out
      go_quiet (fail)
      go_wp2
      go_ret2
      exact ⟨by rw [HE.out]; rfl, _, rfl⟩

def dPart (s : ByteArray) : ByteArray := s.extract 0 (ldn s.data.toList)
def rPart (s : ByteArray) : ByteArray := s.extract (ldn s.data.toList) s.size

set_option maxHeartbeats 400000 in
theorem zzlead_any (s : ByteArray) (w : World) (hs : s.size ≤ maxLen) :
    Calls Trym.prog 10 #[.string s] w fun e w' => e = .returned (.tuple #[.string (dPart s), .string (rPart s)]) ∧ ∃ n, w' = w.drewN n := by
  go_enter Trym.func10, Trym.ntmps10
  go_wp2_with (go_at_call 30; refine (lead_any s w hs).mono ?_; rintro e w' ⟨rfl, hw'⟩)
  go_ret2
  exact ⟨rfl, hw'⟩

set_option maxHeartbeats 400000 in
theorem isDigit_any (c : UInt8) (w : World) :
    Calls Trym.prog 11 #[.int .u8 c.toNat] w fun e w' => e = .returned (.bool (digB c)) ∧ w' = w := by
  have e : digB c = (decide ((48 : Int) ≤ (c.toNat : Int)) && decide ((c.toNat : Int) ≤ 57)) := by
    rw [Bool.eq_iff_iff]; simp only [digB, Bool.and_eq_true, decide_eq_true_eq]; omega
  by_cases h1 : (48 : Int) ≤ (c.toNat : Int)
  · by_cases h2 : (c.toNat : Int) ≤ 57
    · have E : Hid (digB c = true) := hid (by rw [e]; simp [h1, h2])
      clear e
      go_enter Trym.func11, Trym.ntmps11
      go_wp2
      go_ret
      exact ⟨by rw [E.out]; rfl, rfl⟩
    · have E : Hid (digB c = false) := hid (by rw [e]; simp [h2])
      clear e
      go_enter Trym.func11, Trym.ntmps11
      go_wp2
      go_ret
      exact ⟨by rw [E.out]; rfl, rfl⟩
  · have E : Hid (digB c = false) := hid (by rw [e]; simp [h1])
    clear e
    go_enter Trym.func11, Trym.ntmps11
    go_wp2
    go_ret
    exact ⟨by rw [E.out]; rfl, rfl⟩

end Go.Proofs.Qxb6602934aMods
