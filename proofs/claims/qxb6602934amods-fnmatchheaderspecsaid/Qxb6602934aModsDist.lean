/- distinct and indexOf. -/
import Derived.Test.Qxb6602934aModsMatch
namespace Go.Proofs.Qxb6602934aMods
open Go.RowKit
set_option linter.unusedVariables false

theorem beq_no {a b : ByteArray} (h : a ≠ b) : (a.toList == b.toList) = false := by
  rw [beq_eq_false_iff_ne]; intro e; apply h
  rw [ByteArray.toList_eq, ByteArray.toList_eq] at e
  cases a; cases b; simp at e; simp [e]
theorem beq_yes {a b : ByteArray} (h : a = b) : (a.toList == b.toList) = true := by rw [h]; simp

theorem drewN_two (w : World) (a b : Nat) : (w.drewN a).drewN b = w.drewN (a + b) := by simp [World.drewN, Nat.add_assoc]

/-- No two of the first n strings are one; of the pairs whose first is below k. -/
def Dis (f : Nat → ByteArray) (n k : Nat) : Prop := ∀ i j, i < k → i < j → j < n → f i ≠ f j
def DisIn (f : Nat → ByteArray) (k l : Nat) : Prop := ∀ j, k < j → j < l → f k ≠ f j
theorem Dis.step {f : Nat → ByteArray} {n k : Nat} (h : Dis f n k) (h2 : DisIn f k n) : Dis f n (k + 1) := by
  intro i j hi hij hj
  by_cases e : i = k
  · subst e; exact h2 j hij hj
  · exact h i j (by omega) hij hj
theorem DisIn.step {f : Nat → ByteArray} {k l : Nat} (h : DisIn f k l) (h2 : f k ≠ f l) : DisIn f k (l + 1) := by
  intro j hk hj
  by_cases e : j = l
  · subst e; exact h2
  · exact h j hk (by omega)
theorem DisIn.zero (f : Nat → ByteArray) (k : Nat) : DisIn f k (k + 1) := by
  intro j h1 h2; omega

def DistRet (w : World) (f : Nat → ByteArray) (n : Nat) (e : Ending) (w' : World) : Prop := ∃ r : Bool, e = .returned (.bool r) ∧ (r = true → Dis f n n) ∧ ∃ q, w' = w.drewN q

set_option maxHeartbeats 400000 in
theorem dist26 (a : Option Addr) (n cap : Nat) (f : Nat → ByteArray) (w : World) (hn : n ≤ maxLen) (hr : Row w a n fun i => .string (f i)) :
    Calls Trym.prog 26 #[.slice a n cap] w (DistRet w f n) := by
  unfold maxLen at hn
  rcases hr.cases with hc | ⟨b, off, rfl, hlt, hc⟩
  all_goals
    clear hr
    go_enter Trym.func26, Trym.ntmps26
    go_wp2
    go_loopw [3] (fun i wr => ∃ k : Nat, k ≤ n ∧ i = .int .i64 k ∧ Dis f n k ∧ ∃ q, wr = w.drewN q) (fun i _ => n - (intOf i).toNat)
    case atStart => exact ⟨0, Nat.zero_le _, rfl, fun i j hi => absurd hi (Nat.not_lt_zero _), 0, rfl⟩
    case round =>
      obtain ⟨k, hk, rfl, hD, q, rfl⟩ := hrel
      have HD := hid' hD
      clear hD
      by_cases hkn : k < n
      · first
          | exact (none_in hc hkn).elim
          | (go_wp2
             go_loopw [4] (fun i wr => ∃ l : Nat, l ≤ n ∧ i = .int .i64 l ∧ DisIn f k l ∧ ∃ q, wr = w.drewN q) (fun i _ => n - (intOf i).toNat)
             case atStart => exact ⟨k + 1, by omega, by go_num, DisIn.zero f k, q, rfl⟩
             case round =>
               obtain ⟨l, hl, rfl, hI, q2, rfl⟩ := hrel
               have HI := hid' hI
               clear hI
               by_cases hln : l < n
               · have g1 : w.cell? ⟨b, off + k, none⟩ = some (.string (f k)) := hc.out k hkn
                 have g2 : w.cell? ⟨b, off + l, none⟩ = some (.string (f l)) := hc.out l hln
                 by_cases he : f k = f l
                 · have he' := beq_yes he
                   clear he
                   go_wp2
                   go_quiet (fail)
                   go_wp2
                   go_ret
                   exact ⟨false, rfl, nofun, _, drewN_two _ _ _⟩
                 · have he' := beq_no he
                   have HE := hid' he
                   clear he
                   go_wp2
                   go_quiet (fail)
                   go_wp2
                   go_roundw
                   case rel => exact ⟨l + 1, by omega, by go_num, HI.out.step HE.out, _, rfl⟩
                   case measure => simp [intOf]; omega
               · obtain rfl : l = n := by omega
                 go_wp2
                 go_roundw
                 case rel => exact ⟨k + 1, by omega, by go_num, HD.out.step HI.out, _, rfl⟩
                 case measure => simp [intOf]; omega)
      · obtain rfl : k = n := by omega
        go_wp2
        go_ret
        exact ⟨true, rfl, fun _ => HD.out, _, rfl⟩

/-- r is the first place of x among the first n strings, or -1. -/
def IsIx (f : Nat → ByteArray) (n : Nat) (x : ByteArray) (r : Int) : Prop := (∃ i : Nat, i < n ∧ r = i ∧ f i = x ∧ ∀ j, j < i → f j ≠ x) ∨ (r = -1 ∧ ∀ j, j < n → f j ≠ x)
theorem IsIx.one {f : Nat → ByteArray} {n : Nat} {x : ByteArray} {r r' : Int} (h : IsIx f n x r) (h' : IsIx f n x r') : r = r' := by
  rcases h with ⟨i, hi, rfl, e, h⟩ | ⟨rfl, h⟩ <;> rcases h' with ⟨i', hi', rfl, e', h'⟩ | ⟨rfl, h'⟩
  · by_cases h1 : i < i'
    · exact absurd e (h' i h1)
    · by_cases h2 : i' < i
      · exact absurd e' (h i' h2)
      · omega
  · exact absurd e (h' i hi)
  · exact absurd e' (h i' hi')
  · rfl

def IxRet (w : World) (f : Nat → ByteArray) (n : Nat) (x : ByteArray) (e : Ending) (w' : World) : Prop := ∃ r : Int, e = .returned (.int .i64 r) ∧ IsIx f n x r ∧ w' = w

def NotYet (f : Nat → ByteArray) (x : ByteArray) (k : Nat) : Prop := ∀ j, j < k → f j ≠ x

set_option maxHeartbeats 400000 in
theorem ix28 (a : Option Addr) (n cap : Nat) (f : Nat → ByteArray) (x : ByteArray) (w : World) (hn : n ≤ maxLen) (hr : Row w a n fun i => .string (f i)) :
    Calls Trym.prog 28 #[.slice a n cap, .string x] w (IxRet w f n x) := by
  unfold maxLen at hn
  rcases hr.cases with hc | ⟨b, off, rfl, hlt, hc⟩
  all_goals
    clear hr
    go_enter Trym.func28, Trym.ntmps28
    go_wp2
    go_loop [5] (fun i => ∃ k : Nat, k ≤ n ∧ i = .int .i64 k ∧ NotYet f x k) (fun i => n - (intOf i).toNat)
    case atStart => exact ⟨0, Nat.zero_le _, rfl, fun j hj => absurd hj (Nat.not_lt_zero _)⟩
    case round =>
      obtain ⟨k, hk, rfl, hD⟩ := hrel
      have HD := hid' hD
      clear hD
      by_cases hkn : k < n
      · first
          | exact (none_in hc hkn).elim
          | (have g1 := hc.out k hkn
             by_cases he : f k = x
             · have he' := beq_yes he
               have HE := hid' he
               clear he
               go_wp2
               go_ret
               exact ⟨_, rfl, Or.inl ⟨k, hkn, rfl, HE.out, HD.out⟩, rfl⟩
             · have he' := beq_no he
               have HE := hid' he
               clear he
               go_wp2
               go_round
               case rel =>
                 refine ⟨k + 1, by omega, by go_num, fun j hj => ?_⟩
                 by_cases e : j = k
                 · subst e; exact HE.out
                 · exact HD.out j (by omega)
               case measure => simp [intOf]; omega)
      · obtain rfl : k = n := by omega
        go_wp2
        go_ret
        exact ⟨_, rfl, Or.inr ⟨rfl, HD.out⟩, rfl⟩

theorem ix28_at (a : Option Addr) (n cap : Nat) (f : Nat → ByteArray) (x : ByteArray) (r : Int) (w : World) (hn : n ≤ maxLen) (hr : Row w a n fun i => .string (f i)) (hx : IsIx f n x r) :
    Calls Trym.prog 28 #[.slice a n cap, .string x] w fun e w' => e = .returned (.int .i64 r) ∧ w' = w :=
  (ix28 a n cap f x w hn hr).mono fun e w' ⟨r', he, h', hw⟩ => ⟨by rw [he, h'.one hx], hw⟩

end Go.Proofs.Qxb6602934aMods
