/- The walk of FnMatchHeaderFullFile. -/
import Derived.Test.Qxb6602934aModsMatch
namespace Go.Proofs.Qxb6602934aMods.fnMatchHeaderFullFile
open Go.RowKit Go.Proofs.Qxb6602934aMods
set_option linter.unusedVariables false

theorem nx_self (f : Nat → ByteArray) (n i : Nat) (h : i ≤ n) : nx f f n i = i := by
  induction i with
  | zero => rfl
  | succ i ih =>
    have e := ih (by omega)
    have hh : hit f f n i := ⟨by rw [e]; omega, by rw [e]⟩
    rw [nx_hit hh, e]
theorem hit_self (f : Nat → ByteArray) (n i : Nat) (h : i < n) : hit f f n i := by
  have e := nx_self f n i (by omega)
  exact ⟨by rw [e]; omega, by rw [e]⟩

theorem matched_self {w : World} {n : Nat} {f : Nat → ByteArray} {g : Nat → Bool} {e : Ending} {w' : World} (h : Matched w n f g n f e w') :
    ∃ b, e = .returned (.tuple #[.slice (some ⟨b, 0, none⟩) n n, .bool true]) ∧ Below w.heap.size w w' ∧ Hid (∀ i, i < n → w'.cell? ⟨b, i, none⟩ = some (.int .i64 i)) := by
  obtain ⟨hb, ⟨hn, _⟩ | ⟨_, b, rfl, hr⟩⟩ := h
  · exact absurd (fun j hj => Or.inl (hit_self f n j hj)) hn
  · refine ⟨b, ?_, hb, fun i hi => ?_⟩
    · rw [nx_self f n n (Nat.le_refl _)]; simp
    · rcases hr with h0 | ⟨b', off, he, _, hc⟩
      · omega
      · cases he
        have := hc i hi
        dsimp only at this
        rw [Nat.zero_add, atV_hit (hit_self f n i hi), nx_self f n i (by omega)] at this
        exact this

set_option maxHeartbeats 1000000 in
theorem walk (a : Option Addr) (n cap : Nat) (f : Nat → ByteArray) (a1 : Option Addr) (n1 cap1 : Nat) (g : Nat → Bool) (w : World) (hn : n ≤ maxLen) (hn1 : n1 ≤ maxLen)
    (hnil : a = none → n = 0) (hnil1 : a1 = none → n1 = 0) (hr : Row w a n fun i => .string (f i)) (hr1 : Row w a1 n1 fun i => .bool (g i)) :
    Calls Trym.prog 8 #[.slice a n cap, .slice a1 n1 cap1] w fun e w' => e = .returned (.bool true) ∧ Below w.heap.size w w' := by
  have C29 := hid' (bytes29 a n cap f a1 n1 cap1 w hn hn1 hr)
  have C14 := hid' (fun z => spend14 z a n cap f w hn hr)
  have HR := hid' hr
  have HR1 := hid' hr1
  have HN := hid' hnil
  have HN1 := hid' hnil1
  have HM := hid' hn
  have HM1 := hid' hn1
  unfold maxLen at hn hn1
  clear hr hr1 hnil hnil1
  by_cases hbig : n ≤ 65536 ∧ n1 ≤ 65536
  · obtain ⟨h1, h2⟩ := hbig
    by_cases heq : n1 = n
    · subst heq
      go_enter Trym.func8, Trym.ntmps8
      go_wp2_with fail
      refine C29.out.mono ?_
      rintro e w' ⟨⟨r, rfl⟩, rfl⟩
      cases r
      · go_wp2_with fail
        go_ret
        exact ⟨rfl, Below.refl _ _⟩
      · go_wp2_with fail
        refine (C14.out _).mono ?_
        rintro e w' ⟨⟨q, rfl⟩, rfl⟩
        by_cases hq : q < 0
        · go_wp2_with fail
          go_ret
          exact ⟨rfl, Below.refl _ _⟩
        · go_wp2_with fail
          refine (clone16 a n1 cap f _ (by omega) HM.out HN.out HR.out).mono ?_
          rintro e w1 ⟨b1, rfl, hb1, hr1, hB1⟩
          have HR2 := hid' (HR1.out.below hB1 (Nat.le_refl _))
          have HA1 := hid' hr1
          have HB1 := hid' hb1
          clear hr1 hb1
          go_wp2_with fail
          refine (clone17 a1 n1 cap1 g _ (by omega) HM1.out HN1.out HR2.out).mono ?_
          rintro e w2 ⟨b2, rfl, hb2, hr2, hB2⟩
          have HA2 := hid' (HA1.out.below hB2 (Nat.le_refl _))
          have HO2 := hid' hr2
          clear hr2 hb2
          go_wp2_with fail
          refine (zzmatch25 b1 n1 n1 f b2 n1 g b1 n1 n1 f _ (by omega) HM.out HA2.out HO2.out HA2.out).mono ?_
          rintro e w3 hmm
          obtain ⟨bt, rfl, hB3, hat⟩ := matched_self hmm
          have HB := hid' ((hB1.trans (hB2.mono hB1.size)).trans (hB3.mono (Nat.le_trans hB1.size hB2.size)))
          clear hmm hB1 hB2 hB3
          go_wp2_with fail
          go_loop [7] (fun i => ∃ k : Nat, k ≤ n1 ∧ i = .int .i64 k) (fun i => n1 - (intOf i).toNat)
          case atStart => exact ⟨0, Nat.zero_le _, rfl⟩
          case round =>
            obtain ⟨k, hk, rfl⟩ := hrel
            by_cases hkn : k < n1
            · have hck := hat.out k hkn
              go_wp2
              go_round
              case rel => exact ⟨k + 1, by omega, by go_num⟩
              case measure => simp [intOf]; omega
            · go_wp2
              go_ret
              exact ⟨rfl, HB.out⟩
    · have hne : ((n : Int) != (n1 : Int)) = true := by simp; omega
      go_enter Trym.func8, Trym.ntmps8
      go_wp2_with fail
      refine C29.out.mono ?_
      rintro e w' ⟨⟨r, rfl⟩, rfl⟩
      cases r
      · go_wp2_with fail
        go_ret
        exact ⟨rfl, Below.refl _ _⟩
      · go_wp2_with fail
        refine (C14.out _).mono ?_
        rintro e w' ⟨⟨q, rfl⟩, rfl⟩
        by_cases hq : q < 0
        · go_wp2_with fail
          go_ret
          exact ⟨rfl, Below.refl _ _⟩
        · go_wp2_with fail
          go_ret
          exact ⟨rfl, Below.refl _ _⟩
  · by_cases h1 : 65536 < n
    · go_enter Trym.func8, Trym.ntmps8
      go_wp2_with fail
      refine C29.out.mono ?_
      rintro e w' ⟨⟨r, rfl⟩, rfl⟩
      cases r
      all_goals
        go_wp2_with fail
        go_ret
        exact ⟨rfl, Below.refl _ _⟩
    · have h2 : 65536 < n1 := by omega
      go_enter Trym.func8, Trym.ntmps8
      go_wp2_with fail
      refine C29.out.mono ?_
      rintro e w' ⟨⟨r, rfl⟩, rfl⟩
      cases r
      all_goals
        go_wp2_with fail
        go_ret
        exact ⟨rfl, Below.refl _ _⟩

end Go.Proofs.Qxb6602934aMods.fnMatchHeaderFullFile
