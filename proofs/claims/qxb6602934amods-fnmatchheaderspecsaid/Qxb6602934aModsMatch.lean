/- matchHeader and ZZMatchHeader. -/
import Derived.Test.Qxb6602934aModsCols
namespace Go.Proofs.Qxb6602934aMods
open Go.RowKit
set_option linter.unusedVariables false

/-- How many fields of 'got' are taken by the first i columns. -/
def nx (f got : Nat → ByteArray) (m : Nat) : Nat → Nat
  | 0 => 0
  | i + 1 => if nx f got m i < m ∧ got (nx f got m i) = f i then nx f got m i + 1 else nx f got m i
/-- Is column i the next field? -/
def hit (f got : Nat → ByteArray) (m : Nat) (i : Nat) : Prop := nx f got m i < m ∧ got (nx f got m i) = f i
theorem nx_hit {f got : Nat → ByteArray} {m i : Nat} (h : hit f got m i) : nx f got m (i + 1) = nx f got m i + 1 := by
  simp only [nx]; exact if_pos h
theorem nx_miss {f got : Nat → ByteArray} {m i : Nat} (h : ¬ hit f got m i) : nx f got m (i + 1) = nx f got m i := by
  simp only [nx]; exact if_neg h
theorem nx_le (f got : Nat → ByteArray) (m i : Nat) : nx f got m i ≤ m ∧ nx f got m i ≤ i := by
  induction i with
  | zero => simp [nx]
  | succ i ih =>
    by_cases h : hit f got m i
    · rw [nx_hit h]; have := h.1; omega
    · rw [nx_miss h]; omega
/-- The place of column i. -/
def atV (f got : Nat → ByteArray) (m : Nat) (i : Nat) : Int := if nx f got m i < m ∧ got (nx f got m i) = f i then (nx f got m i : Int) else -1
theorem atV_hit {f got : Nat → ByteArray} {m i : Nat} (h : hit f got m i) : atV f got m i = (nx f got m i : Int) := if_pos h
theorem atV_miss {f got : Nat → ByteArray} {m i : Nat} (h : ¬ hit f got m i) : atV f got m i = -1 := if_neg h
/-- No column among the first k is missing that must be there. -/
def okUpTo (f : Nat → ByteArray) (g : Nat → Bool) (got : Nat → ByteArray) (m k : Nat) : Prop := ∀ j, j < k → hit f got m j ∨ g j = true

theorem Cols.cases {w : World} {a : Option Addr} {n : Nat} {f : Nat → ByteArray} {g : Nat → Bool} (h : Cols w a n f g) : Hid (n = 0) ∨ ∃ b off, a = some ⟨b, off, none⟩ ∧ b < w.heap.size ∧ Hid (∀ i, i < n → w.cell? ⟨b, off + i * 2, none⟩ = some (.string (f i)) ∧ w.cell? ⟨b, off + i * 2 + 1, none⟩ = some (.bool (g i))) := h

/-- What matchHeader hands back. -/
def Matched (w : World) (n : Nat) (f : Nat → ByteArray) (g : Nat → Bool) (m : Nat) (got : Nat → ByteArray) (e : Ending) (w' : World) : Prop :=
  Below w.heap.size w w' ∧
  ((¬ okUpTo f g got m n ∧ e = .returned (.tuple #[.slice none 0 0, .bool false])) ∨
   (okUpTo f g got m n ∧ ∃ b, e = .returned (.tuple #[.slice (some ⟨b, 0, none⟩) n n, .bool ((nx f got m n : Int) == (m : Int))]) ∧ Row w' (some ⟨b, 0, none⟩) n (fun i => .int .i64 (atV f got m i))))

theorem Fill.alloc {w wr : World} {E : TypeId} {n : Nat} {V : Nat → Value} {z : Value} {k : Nat} (h : Fill w wr E n V z k) (o : Obj) : Fill w (wr.alloc o) E n V z k :=
  ⟨h.row.alloc o, h.below.alloc h.below.size o⟩
theorem Fill.drewN {w wr : World} {E : TypeId} {n : Nat} {V : Nat → Value} {z : Value} {k : Nat} (h : Fill w wr E n V z k) (q : Nat) : Fill w (wr.drewN q) E n V z k :=
  ⟨h.row, ⟨h.below.os, h.below.tape, h.below.output, h.below.size, h.below.block⟩⟩
theorem Fill.stepV {w wr : World} {E : TypeId} {n : Nat} {V : Nat → Value} {z : Value} {k : Nat} (h : Fill w wr E n V z k) {v : Value} (hv : V k = v) : Fill w (wr.setCell ⟨w.heap.size, k, none⟩ v) E n V z (k + 1) := by
  subst hv; exact h.step

theorem ok_more {f : Nat → ByteArray} {g : Nat → Bool} {got : Nat → ByteArray} {m k : Nat} (h : okUpTo f g got m k) (hk : hit f got m k ∨ g k = true) : okUpTo f g got m (k + 1) := by
  intro j hj
  by_cases e : j < k
  · exact h j e
  · obtain rfl : j = k := by omega
    exact hk

theorem end_ok {w wr : World} {n : Nat} {f : Nat → ByteArray} {g : Nat → Bool} {m : Nat} {got : Nat → ByteArray} (ho : okUpTo f g got m n) (hF : Fill w wr 3 n (fun i => .int .i64 (atV f got m i)) (.int .i64 0) n) :
    Matched w n f g m got (.returned (.tuple #[.slice (some ⟨w.heap.size, 0, none⟩) n n, .bool ((nx f got m n : Int) == (m : Int))])) wr :=
  ⟨hF.below, Or.inr ⟨ho, _, rfl, hF.done⟩⟩

theorem end_bad {w wr : World} {n : Nat} {f : Nat → ByteArray} {g : Nat → Bool} {m : Nat} {got : Nat → ByteArray} {k : Nat} (hk : k < n) (hh : ¬ hit f got m k) (hg : g k = false) {j : Nat} {V : Nat → Value} {z : Value} (hF : Fill w wr 3 n V z j) :
    Matched w n f g m got (.returned (.tuple #[.slice none 0 0, .bool false])) wr :=
  ⟨hF.below, Or.inl ⟨fun h => (h k hk).elim hh (fun h' => by rw [hg] at h'; cases h'), rfl⟩⟩

set_option maxHeartbeats 400000 in
theorem match33_none (a : Option Addr) (n cap : Nat) (f : Nat → ByteArray) (g : Nat → Bool) (a2 : Option Addr) (m cap2 : Nat) (got : Nat → ByteArray) (w : World) (hn : n ≤ 1048576) (hm : m ≤ maxLen) (hc : Hid (n = 0)) :
    Calls Trym.prog 33 #[.slice a n cap, .slice a2 m cap2] w (Matched w n f g m got) := by
  unfold maxLen at hm
  have hmk := run_make_row' (P := Trym.prog) 41 3 (.int .i64 0) 8 Trym.underlying41 Trym.info3 rfl .i64 .i64 n (by omega) (by omega)
  go_enter Trym.func33, Trym.ntmps33
  go_wp2
  clear hmk
  go_loopw [7, 15] (fun x i wr => ∃ k : Nat, k ≤ n ∧ i = .int .i64 k ∧ x = .int .i64 (nx f got m k) ∧ okUpTo f g got m k ∧ Fill w wr 3 n (fun i => .int .i64 (atV f got m i)) (.int .i64 0) k) (fun _ i _ => n - (intOf i).toNat)
  case atStart => exact ⟨0, Nat.zero_le _, rfl, rfl, fun j hj => absurd hj (Nat.not_lt_zero _), Fill.start _ _ _ _ _⟩
  case round =>
    obtain ⟨k, hk, rfl, rfl, hok, hF⟩ := hrel
    have HO := hid' hok
    clear hok
    by_cases hkn : k < n
    · exact (none_in hc hkn).elim
    · obtain rfl : k = n := by omega
      go_wp2
      go_ret2
      exact end_ok HO.out hF

set_option maxHeartbeats 1000000 in
theorem match33 (a : Option Addr) (n cap : Nat) (f : Nat → ByteArray) (g : Nat → Bool) (a2 : Option Addr) (m cap2 : Nat) (got : Nat → ByteArray) (w : World) (hn : n ≤ 1048576) (hm : m ≤ maxLen)
    (hr : Cols w a n f g) (hr2 : Row w a2 m fun i => .string (got i)) :
    Calls Trym.prog 33 #[.slice a n cap, .slice a2 m cap2] w (Matched w n f g m got) := by
  rcases hr.cases with hc | ⟨b, off, rfl, hlt, hc⟩
  · exact match33_none a n cap f g a2 m cap2 got w hn hm hc
  unfold maxLen at hm
  have hmk := run_make_row' (P := Trym.prog) 41 3 (.int .i64 0) 8 Trym.underlying41 Trym.info3 rfl .i64 .i64 n (by omega) (by omega)
  rcases hr2.cases with hc2 | ⟨b2, off2, rfl, hlt2, hc2⟩
  all_goals
    clear hr hr2
    go_enter Trym.func33, Trym.ntmps33
    go_wp2
    clear hmk
    go_loopw [7, 15] (fun x i wr => ∃ k : Nat, k ≤ n ∧ i = .int .i64 k ∧ x = .int .i64 (nx f got m k) ∧ okUpTo f g got m k ∧ Fill w wr 3 n (fun i => .int .i64 (atV f got m i)) (.int .i64 0) k) (fun _ i _ => n - (intOf i).toNat)
    case atStart => exact ⟨0, Nat.zero_le _, rfl, rfl, fun j hj => absurd hj (Nat.not_lt_zero _), Fill.start _ _ _ _ _⟩
    case round =>
      obtain ⟨k, hk, rfl, rfl, hok, hF⟩ := hrel
      have HO := hid' hok
      clear hok
      have hx := nx_le f got m k
      obtain ⟨hx1, hx2⟩ := hx
      by_cases hkn : k < n
      · obtain ⟨g1, g2⟩ := hc.out k hkn
        have g1' : wr.cell? ⟨b, off + k * 2, none⟩ = some (.string (f k)) := (hF.below.cell (p := ⟨b, off + k * 2, none⟩) hlt).trans g1
        have g2' : wr.cell? ⟨b, off + k * 2 + 1, none⟩ = some (.bool (g k)) := (hF.below.cell (p := ⟨b, off + k * 2 + 1, none⟩) hlt).trans g2
        have hsz : w.heap.size < wr.heap.size := hF.row.lt
        have g3 : wr.cell? ⟨w.heap.size, k, none⟩ = some (.int .i64 0) := by simpa using hF.row.cell hkn
        have g4 : wr.frozen? ⟨w.heap.size, k, none⟩ = false := hF.row.frozen k
        clear g1 g2
        have HM : Hid (¬ hit f got m k → atV f got m k = -1 ∧ nx f got m (k + 1) = nx f got m k) := fun h => ⟨atV_miss h, nx_miss h⟩
        by_cases h1 : nx f got m k < m
        · first
            | exact (none_in hc2 h1).elim
            | (have g5 : wr.cell? ⟨b2, off2 + nx f got m k, none⟩ = some (.string (got (nx f got m k))) := (hF.below.cell (p := ⟨b2, off2 + nx f got m k, none⟩) hlt2).trans (hc2.out _ h1)
               have hlt2' : b2 < wr.heap.size := by omega
               by_cases h2 : got (nx f got m k) = f k
               · have HH := hid' (show hit f got m k from ⟨h1, h2⟩)
                 have HV := hid' (atV_hit HH.out)
                 have HN := hid' (nx_hit HH.out)
                 have h2' : ((got (nx f got m k)).toList == (f k).toList) = true := by rw [h2]; simp
                 clear h2
                 generalize nx f got m k = x at *
                 go_wp2
                 go_quiet (fail)
                 go_wp2
                 go_roundw
                 case rel => exact ⟨k + 1, by omega, by go_num, by rw [HN.out]; go_num, ok_more HO.out (Or.inl HH.out), ((hF.alloc _).drewN _).stepV (by simp only [HV.out])⟩
                 case measure => simp [intOf]; omega
               · have HH := hid' (show ¬ hit f got m k from fun h => h2 h.2)
                 have h2' : ((got (nx f got m k)).toList == (f k).toList) = false := by
                   rw [beq_eq_false_iff_ne]; intro h; apply h2
                   rw [ByteArray.toList_eq, ByteArray.toList_eq] at h
                   cases hA : got (nx f got m k); cases hB : f k; rw [hA, hB] at h; simp at h; simp [h]
                 clear h2
                 have HV := hid' (HM.out HH.out).1
                 have HN := hid' (HM.out HH.out).2
                 generalize nx f got m k = x at *
                 cases hg : g k
                 · rw [hg] at g2'
                   have HG := hid' hg
                   clear hg
                   go_wp2
                   go_quiet (fail)
                   go_wp2
                   go_ret2
                   exact end_bad hkn HH.out HG.out ((hF.alloc _).drewN _)
                 · rw [hg] at g2'
                   have HG := hid' hg
                   clear hg
                   go_wp2
                   go_quiet (fail)
                   go_wp2
                   go_roundw
                   case rel => exact ⟨k + 1, by omega, by go_num, by rw [HN.out], ok_more HO.out (Or.inr HG.out), ((hF.alloc _).drewN _).stepV (by simp only [HV.out])⟩
                   case measure => simp [intOf]; omega)
        · have HH := hid' (show ¬ hit f got m k from fun h => h1 h.1)
          have HV := hid' (HM.out HH.out).1
          have HN := hid' (HM.out HH.out).2
          have h1' : decide ((nx f got m k : Int) < (m : Int)) = false := by simpa using h1
          generalize nx f got m k = x at *
          cases hg : g k
          · rw [hg] at g2'
            have HG := hid' hg
            clear hg
            go_wp2
            go_quiet (fail)
            go_wp2
            go_ret2
            exact end_bad hkn HH.out HG.out ((hF.alloc _).drewN _)
          · rw [hg] at g2'
            have HG := hid' hg
            clear hg
            go_wp2
            go_quiet (fail)
            go_wp2
            go_roundw
            case rel => exact ⟨k + 1, by omega, by go_num, by rw [HN.out], ok_more HO.out (Or.inr HG.out), ((hF.alloc _).drewN _).stepV (by simp only [HV.out])⟩
            case measure => simp [intOf]; omega
      · obtain rfl : k = n := by omega
        go_wp2
        go_ret2
        exact end_ok HO.out hF

theorem Matched.before {w w1 w' : World} {n : Nat} {f : Nat → ByteArray} {g : Nat → Bool} {m : Nat} {got : Nat → ByteArray} {e : Ending} (h : Matched w1 n f g m got e w') (hb : Below w.heap.size w w1) : Matched w n f g m got e w' :=
  ⟨hb.trans (h.1.mono hb.size), h.2⟩

set_option maxHeartbeats 400000 in
theorem zzmatch25 (a : Option Addr) (n cap : Nat) (f : Nat → ByteArray) (a1 : Option Addr) (cap1 : Nat) (g : Nat → Bool) (a2 : Option Addr) (m cap2 : Nat) (got : Nat → ByteArray) (w : World) (hn : n ≤ 1048576) (hm : m ≤ maxLen)
    (hr : Row w a n fun i => .string (f i)) (hr1 : Row w a1 n fun i => .bool (g i)) (hr2 : Row w a2 m fun i => .string (got i)) :
    Calls Trym.prog 25 #[.slice a n cap, .slice a1 n cap1, .slice a2 m cap2] w (Matched w n f g m got) := by
  go_enter Trym.func25, Trym.ntmps25
  go_wp2_with fail
  refine (cols32 a n cap f a1 cap1 g w hn hr hr1).mono ?_
  rintro e w1 ⟨ac, rfl, hcols, hb⟩
  have hr2' := hr2.below hb (Nat.le_refl _)
  have C := match33 ac n n f g a2 m cap2 got w1 hn hm hcols hr2'
  have HC := hid' C
  clear C hcols hr hr1 hr2 hr2'
  go_wp2_with fail
  refine HC.out.mono ?_
  rintro e w2 h2
  have h3 := h2.before hb
  obtain ⟨h4, h5⟩ := h3
  rcases h5 with ⟨h6, rfl⟩ | ⟨h6, bb, rfl, h7⟩
  · have H := hid' (show Matched w n f g m got _ w2 from ⟨h4, Or.inl ⟨h6, rfl⟩⟩)
    clear h2 h4 h6 hb
    go_wp2
    go_ret2
    exact H.out
  · have H := hid' (show Matched w n f g m got _ w2 from ⟨h4, Or.inr ⟨h6, bb, rfl, h7⟩⟩)
    clear h2 h4 h6 hb h7
    go_wp2
    go_ret2
    exact H.out

end Go.Proofs.Qxb6602934aMods
