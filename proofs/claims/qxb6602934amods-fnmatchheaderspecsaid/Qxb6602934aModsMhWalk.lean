/- The walk of FnMatchHeaderSpec. -/
import Derived.Test.Qxb6602934aModsPlain
namespace Go.Proofs.Qxb6602934aMods.fnMatchHeaderSpec
open Go.RowKit Go.Proofs.Qxb6602934aMods
set_option linter.unusedVariables false

theorem below_drewN {B : Nat} {w w' : World} (h : Below B w w') (q : Nat) : Below B w (w'.drewN q) := ⟨h.os, h.tape, h.output, h.size, h.block⟩

theorem drawn_below {w wr : World} (h : ∃ q, wr = w.drewN q) : Below w.heap.size w wr := by
  obtain ⟨q, rfl⟩ := h; exact below_drewN (Below.refl _ _) q
theorem drawn_more {w wr : World} (h : ∃ q, wr = w.drewN q) (p : Nat) : ∃ q, wr.drewN p = w.drewN q := by
  obtain ⟨q, rfl⟩ := h; exact ⟨_, drewN_two _ _ _⟩
theorem row0 {w : World} {b n k : Nat} {V : Nat → Value} (h : Row w (some ⟨b, 0, none⟩) n V) (hk : k < n) : w.cell? ⟨b, k, none⟩ = some (V k) := by
  rcases h with h0 | ⟨b', off, he, _, hc⟩
  · omega
  · cases he
    have := hc k hk
    rwa [Nat.zero_add] at this
theorem bne_no {a b : ByteArray} (h : a = b) : (a.toList != b.toList) = false := by rw [h]; simp

set_option maxHeartbeats 1000000 in
set_option maxRecDepth 100000 in
theorem walk_main (a : Option Addr) (n cap : Nat) (f : Nat → ByteArray) (a1 : Option Addr) (cap1 : Nat) (g : Nat → Bool) (a2 : Option Addr) (m cap2 : Nat) (got : Nat → ByteArray) (w : World) (h1 : n ≤ 4096) (h2 : m ≤ 4096)
    (hnil : a = none → n = 0) (hnil1 : a1 = none → n = 0) (hnil2 : a2 = none → m = 0) (hr : Row w a n fun i => .string (f i)) (hr1 : Row w a1 n fun i => .bool (g i)) (hr2 : Row w a2 m fun i => .string (got i)) :
    Calls Trym.prog 7 #[.slice a n cap, .slice a1 n cap1, .slice a2 m cap2] w fun e w' => e = .returned (.bool true) ∧ Below w.heap.size w w' := by
  have HM : Hid (n ≤ maxLen) := hid' (by unfold maxLen; omega)
  have HM2 : Hid (m ≤ maxLen) := hid' (by unfold maxLen; omega)
  have C24 := hid' (bytes24 a n cap f a1 n cap1 a2 m cap2 got w HM.out HM.out HM2.out hr hr2)
  have C14 := hid' (fun z => spend14 z a n cap f w HM.out hr)
  have C14b := hid' (fun z => spend14 z a2 m cap2 got w HM2.out hr2)
  have HR := hid' hr
  have HR1 := hid' hr1
  have HR2 := hid' hr2
  have HN := hid' hnil
  have HN1 := hid' hnil1
  have HN2 := hid' hnil2
  clear hr hr1 hr2 hnil hnil1 hnil2
  go_enter Trym.func7, Trym.ntmps7
  go_wp2_with fail
  refine C24.out.mono ?_
  rintro e w' ⟨⟨r, rfl⟩, rfl⟩
  cases r
  · go_wp2_with fail
    go_ret
    exact ⟨rfl, Below.refl _ _⟩
  go_wp2_with fail
  refine (C14.out _).mono ?_
  rintro e w' ⟨⟨z, rfl⟩, rfl⟩
  by_cases hz : z < 0
  · go_wp2_with fail
    go_ret
    exact ⟨rfl, Below.refl _ _⟩
  go_wp2_with fail
  refine (C14b.out _).mono ?_
  rintro e w' ⟨⟨z2, rfl⟩, rfl⟩
  by_cases hz2 : z2 < 0
  · go_wp2_with fail
    go_ret
    exact ⟨rfl, Below.refl _ _⟩
  go_wp2_with fail
  refine (clone16 a n cap f _ (by omega) HM.out HN.out HR.out).mono ?_
  rintro e w1 ⟨b1, rfl, -, hA, hB1⟩
  have HR1' := hid' (HR1.out.below hB1 (Nat.le_refl _))
  have HR2' := hid' (HR2.out.below hB1 (Nat.le_refl _))
  have HA1 := hid' hA
  have HB1 := hid' hB1
  clear hA hB1
  go_wp2_with fail
  refine (clone17 a1 n cap1 g _ (by omega) HM.out HN1.out HR1'.out).mono ?_
  rintro e w2 ⟨b2, rfl, -, hA, hB2⟩
  have HR2'' := hid' (HR2'.out.below hB2 (Nat.le_refl _))
  have HA2 := hid' (HA1.out.below hB2 (Nat.le_refl _))
  have HO2 := hid' hA
  have HB2 := hid' (HB1.out.trans (hB2.mono HB1.out.size))
  clear hA hB2
  go_wp2_with fail
  refine (clone16 a2 m cap2 got _ (by omega) HM2.out HN2.out HR2''.out).mono ?_
  rintro e w3 ⟨b3, rfl, -, hA, hB3⟩
  have HA3 := hid' (HA2.out.below hB3 (Nat.le_refl _))
  have HO3 := hid' (HO2.out.below hB3 (Nat.le_refl _))
  have HG3 := hid' hA
  have HB3 := hid' (HB2.out.trans (hB3.mono HB2.out.size))
  clear hA hB3
  go_wp2_with fail
  refine (zzmatch25 b1 n n f b2 n g b3 m m got _ (by omega) HM2.out HA3.out HO3.out HG3.out).mono ?_
  rintro e w4 ⟨hB4, hcase⟩
  have HA := hid' (HA3.out.below hB4 (Nat.le_refl _))
  have HO := hid' (HO3.out.below hB4 (Nat.le_refl _))
  have HG := hid' (HG3.out.below hB4 (Nat.le_refl _))
  have HB := hid' (HB3.out.trans (hB4.mono HB3.out.size))
  clear hB4 HR HR1 HR2 HR1' HR2' HR2'' HA1 HA2 HO2 HA3 HO3 HG3 HB1 HB2 HB3 C24 C14 C14b HN HN1 HN2
  rcases hcase with ⟨hno, rfl⟩ | ⟨hyes, bt, rfl, hat⟩
  · have HF := hid' hno
    clear hno
    go_wp2_with fail
    refine (dist26 b1 n n f _ HM.out HA.out).mono ?_
    rintro e w5 ⟨r, rfl, hd, q, rfl⟩
    have HD := hid' hd
    clear hd
    cases r
    · go_wp2_with fail
      go_ret
      exact ⟨rfl, below_drewN HB.out _⟩
    · have e0 : dp f g got n m n 0 = false := by
        rw [Bool.eq_false_iff]; intro h
        exact HF.out ((greedy (HD.out rfl)).1 h).1
      have HE := hid' e0
      clear e0
      go_wp2_with fail
      refine (emb27 b1 n n f b2 n g b3 m m got _ (by omega) (by omega) (HA.out.below (below_drewN (Below.refl _ _) q) (Nat.le_refl _)) (HO.out.below (below_drewN (Below.refl _ _) q) (Nat.le_refl _)) (HG.out.below (below_drewN (Below.refl _ _) q) (Nat.le_refl _))).mono ?_
      rintro e w6 ⟨he, hB6⟩
      rw [HE.out] at he
      subst he
      have HB6 := hid' (HB.out.trans ((below_drewN (Below.refl w4.heap.size w4) q).trans hB6 |>.mono HB.out.size))
      clear hB6
      go_wp2_with fail
      go_ret
      exact ⟨rfl, HB6.out⟩
  · have HF := hid' hyes
    have HX := hid' (nx_le f got m n)
    have HT := hid' hat
    clear hyes hat
    by_cases hok : nx f got m n = m
    · have hok' : ((nx f got m n : Int) == (m : Int)) = true := by rw [hok]; simp
      rw [hok']
      have HK := hid' hok
      clear hok hok'
      go_wp2_with fail
      go_loopw [10, 11] (fun x i wr => ∃ k : Nat, k ≤ n ∧ i = .int .i64 k ∧ x = .int .i64 (nx f got m k) ∧ ∃ q, wr = w4.drewN q) (fun _ i _ => n - (intOf i).toNat)
      case atStart => exact ⟨0, Nat.zero_le _, rfl, rfl, 0, rfl⟩
      case round =>
        obtain ⟨k, hk, rfl, rfl, q, rfl⟩ := hrel
        have hx := nx_le f got m k
        obtain ⟨hx1, hx2⟩ := hx
        by_cases hkn : k < n
        · rcases HA.out.cases with h0 | ⟨bA, oA, rfl, hltA, hcA⟩
          · exact (none_in h0 hkn).elim
          rcases HO.out.cases with h0 | ⟨bO, oO, rfl, hltO, hcO⟩
          · exact (none_in h0 hkn).elim
          have g1 := hcA.out k hkn
          have g2 := hcO.out k hkn
          have g3 : w4.cell? ⟨bt, k, none⟩ = some (.int .i64 (atV f got m k)) := row0 HT.out hkn
          by_cases hh : hit f got m k
          · rcases HG.out.cases with h0 | ⟨bG, oG, rfl, hltG, hcG⟩
            · exact (none_in h0 hh.1).elim
            have g4 := hcG.out _ hh.1
            have hlt := hh.1
            have he' := beq_yes hh.2
            have he'' := bne_no hh.2
            rw [atV_hit hh] at g3
            have HN := hid' (nx_hit hh)
            have hm1 : ((nx f got m k : Int) == -1) = false := by rw [beq_eq_false_iff_ne]; omega
            have hm2 : ((nx f got m k : Int) != (nx f got m k : Int)) = false := by simp
            have hm3 : decide ((m : Int) ≤ (nx f got m k : Int)) = false := by rw [decide_eq_false_iff_not]; omega
            clear hh
            generalize nx f got m k = x at *
            go_wp2_with fail
            go_quiet (fail)
            go_wp2_with fail
            go_roundw
            case rel => exact ⟨k + 1, by omega, by go_num, by rw [HN.out]; go_num, _, rfl⟩
            case measure => simp [intOf]; omega
          · rw [atV_miss hh] at g3
            have HN := hid' (nx_miss hh)
            have hg : g k = true := (HF.out k hkn).resolve_left hh
            rw [hg] at g2
            clear hh hg
            generalize nx f got m k = x at *
            go_wp2_with fail
            go_roundw
            case rel => exact ⟨k + 1, by omega, by go_num, by rw [HN.out], _, rfl⟩
            case measure => simp [intOf]; omega
        · obtain rfl : k = n := by omega
          have hne : ((nx f got m k : Int) != (m : Int)) = false := by rw [HK.out]; simp
          go_wp2_with fail
          refine (dist26 b1 k k f _ HM.out (HA.out.below (below_drewN (Below.refl _ _) q) (Nat.le_refl _))).mono ?_
          rintro e w5 ⟨r, rfl, hd, q2, rfl⟩
          have HD := hid' hd
          clear hd hne
          cases r
          · go_wp2_with fail
            go_ret
            exact ⟨rfl, below_drewN HB.out _⟩
          · have HE := hid' ((greedy (HD.out rfl)).2 ⟨HF.out, HK.out⟩)
            have HI := hid' (place_ix (HD.out rfl) HK.out)
            go_wp2_with fail
            refine (emb27 b1 k k f b2 k g b3 m m got _ (by omega) (by omega) (HA.out.below (below_drewN (Below.refl _ _) _) (Nat.le_refl _)) (HO.out.below (below_drewN (Below.refl _ _) _) (Nat.le_refl _)) (HG.out.below (below_drewN (Below.refl _ _) _) (Nat.le_refl _))).mono ?_
            rintro e w6 ⟨he, hB6⟩
            rw [HE.out] at he
            subst he
            have HB4 := hid' ((below_drewN (Below.refl w4.heap.size w4) _).trans hB6)
            have HB6 := hid' (HB.out.trans (HB4.out.mono HB.out.size))
            have HA6 := hid' (HA.out.below HB4.out (Nat.le_refl _))
            have HG6 := hid' (HG.out.below HB4.out (Nat.le_refl _))
            have HT6 := hid' (HT.out.below HB4.out (Nat.le_refl _))
            clear hB6 HA HO HG HT HB HD HE
            go_wp2_with fail
            go_loopw [12] (fun i wr => ∃ l : Nat, l ≤ k ∧ i = .int .i64 l ∧ ∃ q, wr = w6.drewN q) (fun i _ => k - (intOf i).toNat)
            case atStart => exact ⟨0, Nat.zero_le _, rfl, 0, rfl⟩
            case round =>
              obtain ⟨l, hl, rfl, hq6⟩ := hrel
              have HQ := hid' hq6
              have HB7 := hid' (drawn_below hq6)
              clear hq6
              by_cases hln : l < k
              · rcases (HA6.out.below HB7.out (Nat.le_refl _)).cases with h0 | ⟨bA, oA, rfl, hltA, hcA⟩
                · exact (none_in h0 hln).elim
                have g1 := hcA.out l hln
                have g3 : wr.cell? ⟨bt, l, none⟩ = some (.int .i64 (atV f got m l)) := row0 (HT6.out.below HB7.out (Nat.le_refl _)) hln
                have HG7 := hid' (HG6.out.below HB7.out (Nat.le_refl _))
                have hII := hid' (HI.out l hln)
                generalize hav : atV f got m l = av at g3 hII
                have hm2 : (av != av) = false := by simp
                clear hav
                go_wp2_with fail
                go_quiet ((go_at_call 28; exact Calls.quiet_of_same (ix28_at b3 m m got (f l) av _ HM2.out (HG7.out.below (below_drewN (Below.refl _ _) _) (Nat.le_refl _)) hII.out)))
                go_wp2_with fail
                go_roundw
                case rel => exact ⟨l + 1, by omega, by go_num, drawn_more HQ.out _⟩
                case measure => simp [intOf]; omega
              · go_wp2_with fail
                go_ret
                exact ⟨rfl, HB6.out.trans (HB7.out.mono HB6.out.size)⟩
    · have hok' : ((nx f got m n : Int) == (m : Int)) = false := by simp; omega
      rw [hok']
      have HK := hid' hok
      clear hok hok'
      have hnn := fun w => run_neq_slice_nil (P := Trym.prog) w 41 3 (some ⟨bt, 0, none⟩) n n Trym.underlying41
      go_wp2_with fail
      go_loopw [10, 11] (fun x i wr => ∃ k : Nat, k ≤ n ∧ i = .int .i64 k ∧ x = .int .i64 (nx f got m k) ∧ ∃ q, wr = w4.drewN q) (fun _ i _ => n - (intOf i).toNat)
      case atStart => exact ⟨0, Nat.zero_le _, rfl, rfl, 0, rfl⟩
      case round =>
        obtain ⟨k, hk, rfl, rfl, q, rfl⟩ := hrel
        have hx := nx_le f got m k
        obtain ⟨hx1, hx2⟩ := hx
        by_cases hkn : k < n
        · rcases HA.out.cases with h0 | ⟨bA, oA, rfl, hltA, hcA⟩
          · exact (none_in h0 hkn).elim
          rcases HO.out.cases with h0 | ⟨bO, oO, rfl, hltO, hcO⟩
          · exact (none_in h0 hkn).elim
          have g1 := hcA.out k hkn
          have g2 := hcO.out k hkn
          have g3 : w4.cell? ⟨bt, k, none⟩ = some (.int .i64 (atV f got m k)) := row0 HT.out hkn
          by_cases hh : hit f got m k
          · rcases HG.out.cases with h0 | ⟨bG, oG, rfl, hltG, hcG⟩
            · exact (none_in h0 hh.1).elim
            have g4 := hcG.out _ hh.1
            have hlt := hh.1
            have he' := beq_yes hh.2
            have he'' := bne_no hh.2
            rw [atV_hit hh] at g3
            have HN := hid' (nx_hit hh)
            have hm1 : ((nx f got m k : Int) == -1) = false := by rw [beq_eq_false_iff_ne]; omega
            have hm2 : ((nx f got m k : Int) != (nx f got m k : Int)) = false := by simp
            have hm3 : decide ((m : Int) ≤ (nx f got m k : Int)) = false := by rw [decide_eq_false_iff_not]; omega
            clear hh
            generalize nx f got m k = x at *
            go_wp2_with fail
            go_quiet (fail)
            go_wp2_with fail
            go_roundw
            case rel => exact ⟨k + 1, by omega, by go_num, by rw [HN.out]; go_num, _, rfl⟩
            case measure => simp [intOf]; omega
          · rw [atV_miss hh] at g3
            have HN := hid' (nx_miss hh)
            have hg : g k = true := (HF.out k hkn).resolve_left hh
            rw [hg] at g2
            clear hh hg
            generalize nx f got m k = x at *
            go_wp2_with fail
            go_roundw
            case rel => exact ⟨k + 1, by omega, by go_num, by rw [HN.out], _, rfl⟩
            case measure => simp [intOf]; omega
        · obtain rfl : k = n := by omega
          have hge : nx f got m k < m := by have := HK.out; omega
          go_wp2_with fail
          refine (dist26 b1 k k f _ HM.out (HA.out.below (below_drewN (Below.refl _ _) q) (Nat.le_refl _))).mono ?_
          rintro e w5 ⟨r, rfl, hd, q2, rfl⟩
          have HD := hid' hd
          clear hd hge hnn
          cases r
          · go_wp2_with fail
            go_ret
            exact ⟨rfl, below_drewN HB.out _⟩
          · have e0 : dp f g got k m k 0 = false := by
              rw [Bool.eq_false_iff]; intro h
              exact HK.out ((greedy (HD.out rfl)).1 h).2
            have HE := hid' e0
            clear e0
            go_wp2_with fail
            refine (emb27 b1 k k f b2 k g b3 m m got _ (by omega) (by omega) (HA.out.below (below_drewN (Below.refl _ _) _) (Nat.le_refl _)) (HO.out.below (below_drewN (Below.refl _ _) _) (Nat.le_refl _)) (HG.out.below (below_drewN (Below.refl _ _) _) (Nat.le_refl _))).mono ?_
            rintro e w6 ⟨he, hB6⟩
            rw [HE.out] at he
            subst he
            have HB6 := hid' (HB.out.trans ((below_drewN (Below.refl w4.heap.size w4) _).trans hB6 |>.mono HB.out.size))
            clear hB6
            go_wp2_with fail
            go_ret
            exact ⟨rfl, HB6.out⟩

set_option maxHeartbeats 1000000 in
set_option maxRecDepth 100000 in
theorem walk_ne (a : Option Addr) (n cap : Nat) (f : Nat → ByteArray) (a1 : Option Addr) (n1 cap1 : Nat) (a2 : Option Addr) (m cap2 : Nat) (got : Nat → ByteArray) (w : World) (h1 : n ≤ 4096) (h1' : n1 ≤ 4096) (h2 : m ≤ 4096) (hx : n ≠ n1)
    (hr : Row w a n fun i => .string (f i)) (hr2 : Row w a2 m fun i => .string (got i)) :
    Calls Trym.prog 7 #[.slice a n cap, .slice a1 n1 cap1, .slice a2 m cap2] w fun e w' => e = .returned (.bool true) ∧ Below w.heap.size w w' := by
  have HM : Hid (n ≤ maxLen) := hid' (by unfold maxLen; omega)
  have HM1 : Hid (n1 ≤ maxLen) := hid' (by unfold maxLen; omega)
  have HM2 : Hid (m ≤ maxLen) := hid' (by unfold maxLen; omega)
  have C24 := hid' (bytes24 a n cap f a1 n1 cap1 a2 m cap2 got w HM.out HM1.out HM2.out hr hr2)
  have C14 := hid' (fun z => spend14 z a n cap f w HM.out hr)
  have C14b := hid' (fun z => spend14 z a2 m cap2 got w HM2.out hr2)
  have hne : ((n : Int) != (n1 : Int)) = true := by rw [bne_iff_ne]; omega
  clear hr hr2 hx
  go_enter Trym.func7, Trym.ntmps7
  go_wp2_with fail
  refine C24.out.mono ?_
  rintro e w' ⟨⟨r, rfl⟩, rfl⟩
  cases r
  · go_wp2_with fail
    go_ret
    exact ⟨rfl, Below.refl _ _⟩
  go_wp2_with fail
  refine (C14.out _).mono ?_
  rintro e w' ⟨⟨z, rfl⟩, rfl⟩
  by_cases hz : z < 0
  · go_wp2_with fail
    go_ret
    exact ⟨rfl, Below.refl _ _⟩
  go_wp2_with fail
  refine (C14b.out _).mono ?_
  rintro e w' ⟨⟨z2, rfl⟩, rfl⟩
  by_cases hz2 : z2 < 0
  · go_wp2_with fail
    go_ret
    exact ⟨rfl, Below.refl _ _⟩
  go_wp2_with fail
  go_ret
  exact ⟨rfl, Below.refl _ _⟩

set_option maxHeartbeats 1000000 in
set_option maxRecDepth 100000 in
theorem walk_big (a : Option Addr) (n cap : Nat) (f : Nat → ByteArray) (a1 : Option Addr) (n1 cap1 : Nat) (a2 : Option Addr) (m cap2 : Nat) (got : Nat → ByteArray) (w : World) (hn : n ≤ maxLen) (hn1 : n1 ≤ maxLen) (hm : m ≤ maxLen) (hx : 4096 < n ∨ 4096 < n1 ∨ 4096 < m)
    (hr : Row w a n fun i => .string (f i)) (hr2 : Row w a2 m fun i => .string (got i)) :
    Calls Trym.prog 7 #[.slice a n cap, .slice a1 n1 cap1, .slice a2 m cap2] w fun e w' => e = .returned (.bool true) ∧ Below w.heap.size w w' := by
  have C24 := hid' (bytes24 a n cap f a1 n1 cap1 a2 m cap2 got w hn hn1 hm hr hr2)
  unfold maxLen at hn hn1 hm
  clear hr hr2
  by_cases h1 : 4096 < n
  · clear hx
    go_enter Trym.func7, Trym.ntmps7
    go_wp2_with fail
    refine C24.out.mono ?_
    rintro e w' ⟨⟨r, rfl⟩, rfl⟩
    cases r
    all_goals
      go_wp2_with fail
      go_ret
      exact ⟨rfl, Below.refl _ _⟩
  · by_cases h2 : 4096 < n1
    · clear hx
      go_enter Trym.func7, Trym.ntmps7
      go_wp2_with fail
      refine C24.out.mono ?_
      rintro e w' ⟨⟨r, rfl⟩, rfl⟩
      cases r
      all_goals
        go_wp2_with fail
        go_ret
        exact ⟨rfl, Below.refl _ _⟩
    · have h3 : 4096 < m := by omega
      clear hx
      go_enter Trym.func7, Trym.ntmps7
      go_wp2_with fail
      refine C24.out.mono ?_
      rintro e w' ⟨⟨r, rfl⟩, rfl⟩
      cases r
      all_goals
        go_wp2_with fail
        go_ret
        exact ⟨rfl, Below.refl _ _⟩

theorem walk (a : Option Addr) (n cap : Nat) (f : Nat → ByteArray) (a1 : Option Addr) (n1 cap1 : Nat) (g : Nat → Bool) (a2 : Option Addr) (m cap2 : Nat) (got : Nat → ByteArray) (w : World) (hn : n ≤ maxLen) (hn1 : n1 ≤ maxLen) (hm : m ≤ maxLen)
    (hnil : a = none → n = 0) (hnil1 : a1 = none → n1 = 0) (hnil2 : a2 = none → m = 0) (hr : Row w a n fun i => .string (f i)) (hr1 : Row w a1 n1 fun i => .bool (g i)) (hr2 : Row w a2 m fun i => .string (got i)) :
    Calls Trym.prog 7 #[.slice a n cap, .slice a1 n1 cap1, .slice a2 m cap2] w fun e w' => e = .returned (.bool true) ∧ Below w.heap.size w w' := by
  by_cases hb : n ≤ 4096 ∧ n1 ≤ 4096 ∧ m ≤ 4096
  · by_cases he : n1 = n
    · subst he
      exact walk_main a n1 cap f a1 cap1 g a2 m cap2 got w hb.1 hb.2.2 hnil hnil1 hnil2 hr hr1 hr2
    · exact walk_ne a n cap f a1 n1 cap1 a2 m cap2 got w hb.1 hb.2.1 hb.2.2 (fun h => he h.symm) hr hr2
  · exact walk_big a n cap f a1 n1 cap1 a2 m cap2 got w hn hn1 hm (by omega) hr hr2

end Go.Proofs.Qxb6602934aMods.fnMatchHeaderSpec
