/- embeds. -/
import Derived.Test.Qxb6602934aModsMatch
namespace Go.Proofs.Qxb6602934aMods
open Go.RowKit
set_option linter.unusedVariables false

/-- Do the last r of n columns match got from j on? -/
def dp (f : Nat → ByteArray) (g : Nat → Bool) (got : Nat → ByteArray) (n m : Nat) : Nat → Nat → Bool
  | 0, j => decide (j = m)
  | r + 1, j => (decide (j < m) && decide (got j = f (n - 1 - r)) && dp f g got n m r (j + 1)) || (g (n - 1 - r) && dp f g got n m r j)

/-- The two rows of the table at the head of an outer round: p columns are still to do. -/
structure Tab (w wr : World) (f : Nat → ByteArray) (g : Nat → Bool) (got : Nat → ByteArray) (n m p bn bc : Nat) : Prop where
  ne : bn ≠ bc
  ln : w.heap.size ≤ bn
  lc : w.heap.size ≤ bc
  next : wr.rowIs bn 4 (m + 1) (fun j => .bool (dp f g got n m (n - p) j))
  cur : ∃ F : Nat → Bool, wr.rowIs bc 4 (m + 1) (fun j => .bool (F j))
  below : Below w.heap.size w wr
/-- .. and inside the inner loop, j cells of the new row are made. -/
structure Tin (w wr : World) (f : Nat → ByteArray) (g : Nat → Bool) (got : Nat → ByteArray) (n m q bn bc j : Nat) : Prop where
  ne : bn ≠ bc
  ln : w.heap.size ≤ bn
  lc : w.heap.size ≤ bc
  next : wr.rowIs bn 4 (m + 1) (fun j => .bool (dp f g got n m (n - (q + 1)) j))
  cur : ∃ F : Nat → Bool, wr.rowIs bc 4 (m + 1) (fun i => if i < j then .bool (dp f g got n m (n - q) i) else .bool (F i))
  below : Below w.heap.size w wr

section
variable {w wr : World} {f : Nat → ByteArray} {g : Nat → Bool} {got : Nat → ByteArray} {n m p q bn bc j : Nat}

theorem made_at (m : Nat) : (madeCells #[.bool false] (m + 1))[m]? = some (.bool false) := by simp [madeCells, Nat.mod_one]
theorem Tab.start (w : World) (f : Nat → ByteArray) (g : Nat → Bool) (got : Nat → ByteArray) (n m : Nat) :
    Tab w ((w.alloc (.cells ((madeCells #[.bool false] (m + 1)).setIfInBounds m (.bool true)) 4)).alloc (.cells (madeCells #[.bool false] (m + 1)) 4)) f g got n m n w.heap.size (w.heap.size + 1) := by
  have h1 := World.rowIs_alloc w ((madeCells #[.bool false] (m + 1)).setIfInBounds m (.bool true)) 4 (fun j => .bool (dp f g got n m (n - n) j)) (fun i hi => by
    simp only [Array.size_setIfInBounds, size_madeCells] at hi
    rw [Nat.sub_self, Array.getElem?_setIfInBounds]
    simp only [dp]
    by_cases e : m = i
    · subst e; simp [size_madeCells]
    · rw [if_neg e]; simp [madeCells, hi, Nat.mod_one]; omega)
  simp only [Array.size_setIfInBounds, size_madeCells] at h1
  have h2 := World.rowIs_made (w.alloc (.cells ((madeCells #[.bool false] (m + 1)).setIfInBounds m (.bool true)) 4)) (.bool false) (m + 1) 4
  refine ⟨by omega, Nat.le_refl _, by omega, h1.alloc _, ⟨fun _ => false, ?_⟩, ?_⟩
  · simpa using h2
  · exact ((Below.refl _ _).alloc (Nat.le_refl _) _).alloc (by simp) _

theorem Tab.enter (h : Tab w wr f g got n m (q + 1) bn bc) : Tin w wr f g got n m q bn bc 0 := by
  obtain ⟨F, hF⟩ := h.cur
  exact ⟨h.ne, h.ln, h.lc, h.next, ⟨F, hF.congr (fun i _ => by simp)⟩, h.below⟩

theorem Tin.leave (h : Tin w wr f g got n m q bn bc (m + 1)) : Tab w wr f g got n m q bc bn := by
  obtain ⟨F, hF⟩ := h.cur
  exact ⟨h.ne.symm, h.lc, h.ln, hF.congr (fun i hi => by rw [if_pos hi]), ⟨_, h.next⟩, h.below⟩

theorem Tin.step (h : Tin w wr f g got n m q bn bc j) {v : Bool} (hv : dp f g got n m (n - q) j = v) (nq : Nat) : Tin w ((wr.drewN nq).setCell ⟨bc, j, none⟩ (.bool v)) f g got n m q bn bc (j + 1) := by
  obtain ⟨F, hF⟩ := h.cur
  have hF' : (wr.drewN nq).rowIs bc 4 (m + 1) (fun i => if i < j then .bool (dp f g got n m (n - q) i) else .bool (F i)) := hF
  have hN' : (wr.drewN nq).rowIs bn 4 (m + 1) (fun j => .bool (dp f g got n m (n - (q + 1)) j)) := h.next
  have hB' : Below w.heap.size w (wr.drewN nq) := ⟨h.below.os, h.below.tape, h.below.output, h.below.size, h.below.block⟩
  refine ⟨h.ne, h.ln, h.lc, hN'.setOther h.ne _, ⟨F, (hF'.set j _).congr (fun i _ => ?_)⟩, hB'.setCell h.lc _⟩
  by_cases e : i = j
  · subst e; simp [hv]
  · rw [if_neg e]
    by_cases hlt : i < j
    · rw [if_pos hlt, if_pos (by omega)]
    · rw [if_neg hlt, if_neg (show ¬ i < j + 1 by omega)]

theorem dp_step (hq : q < n) (j : Nat) : dp f g got n m (n - q) j = ((decide (j < m) && decide (got j = f q) && dp f g got n m (n - (q + 1)) (j + 1)) || (g q && dp f g got n m (n - (q + 1)) j)) := by
  have e : n - q = (n - (q + 1)) + 1 := by omega
  rw [e]
  simp only [dp]
  rw [show n - 1 - (n - (q + 1)) = q by omega]
end

/-- What embeds hands back. -/
def EmbRet (w : World) (f : Nat → ByteArray) (g : Nat → Bool) (got : Nat → ByteArray) (n m : Nat) (e : Ending) (w' : World) : Prop := e = .returned (.bool (dp f g got n m n 0)) ∧ Below w.heap.size w w'

theorem makeB (m : Nat) (hm : m ≤ 1048576) (w : World) : (Instr.makeSlice 28 (.int .i64 ((m : Int) + 1)) (.int .i64 ((m : Int) + 1))).run Trym.prog w = .ok (.slice (some ⟨w.heap.size, 0, none⟩) (m + 1) (m + 1)) (w.alloc (.cells (madeCells #[.bool false] (m + 1)) 4)) :=
  run_make_row' (P := Trym.prog) 28 4 (.bool false) 1 Trym.underlying28 Trym.info4 rfl .i64 .i64 (m + 1) (by omega) (by omega) w

theorem Tab.ret {w wr : World} {f : Nat → ByteArray} {g : Nat → Bool} {got : Nat → ByteArray} {n m bn bc : Nat} (h : Tab w wr f g got n m 0 bn bc) : wr.cell? ⟨bn, 0, none⟩ = some (.bool (dp f g got n m n 0)) := by
  have := h.next.cell (i := 0) (by omega)
  rwa [Nat.sub_zero] at this

set_option maxHeartbeats 400000 in
theorem emb27_none (a : Option Addr) (n cap : Nat) (f : Nat → ByteArray) (a1 : Option Addr) (cap1 : Nat) (g : Nat → Bool) (a2 : Option Addr) (m cap2 : Nat) (got : Nat → ByteArray) (w : World) (hm : m ≤ 1048576) (hc : n = 0) :
    Calls Trym.prog 27 #[.slice a n cap, .slice a1 n cap1, .slice a2 m cap2] w (EmbRet w f g got n m) := by
  subst hc
  have hmk := makeB m hm
  have hat := made_at m
  have T := hid' (Tab.start w f g got 0 m)
  go_enter Trym.func27, Trym.ntmps27
  go_wp2
  clear hmk hat
  go_loopw [8, 9, 10] (fun x y i wr => x = .slice (some ⟨w.heap.size, 0, none⟩) (m + 1) (m + 1) ∧ y = .slice (some ⟨w.heap.size + 1, 0, none⟩) (m + 1) (m + 1) ∧ i = .int .i64 (-1) ∧ Tab w wr f g got 0 m 0 w.heap.size (w.heap.size + 1)) (fun _ _ _ _ => 0)
  case atStart => exact ⟨rfl, rfl, rfl, T.out⟩
  case round =>
    obtain ⟨rfl, rfl, rfl, hT⟩ := hrel
    have hcell := hT.ret
    go_wp2
    go_ret
    exact ⟨rfl, hT.below⟩

set_option maxHeartbeats 1000000 in
theorem emb27 (a : Option Addr) (n cap : Nat) (f : Nat → ByteArray) (a1 : Option Addr) (cap1 : Nat) (g : Nat → Bool) (a2 : Option Addr) (m cap2 : Nat) (got : Nat → ByteArray) (w : World) (hn : n ≤ 1048576) (hm : m ≤ 1048576)
    (hr : Row w a n fun i => .string (f i)) (hr1 : Row w a1 n fun i => .bool (g i)) (hr2 : Row w a2 m fun i => .string (got i)) :
    Calls Trym.prog 27 #[.slice a n cap, .slice a1 n cap1, .slice a2 m cap2] w (EmbRet w f g got n m) := by
  rcases hr.cases with hc | ⟨b, off, rfl, hlt, hc⟩
  · exact emb27_none a n cap f a1 cap1 g a2 m cap2 got w hm hc.out
  rcases hr1.cases with hc1 | ⟨b1, off1, rfl, hlt1, hc1⟩
  · exact emb27_none _ n cap f a1 cap1 g a2 m cap2 got w hm hc1.out
  have hmk := makeB m hm
  have hat := made_at m
  have T := hid' (Tab.start w f g got n m)
  rcases hr2.cases with hc2 | ⟨b2, off2, rfl, hlt2, hc2⟩
  all_goals
    clear hr hr1 hr2
    go_enter Trym.func27, Trym.ntmps27
    go_wp2
    clear hmk hat
    go_loopw [8, 9, 10] (fun x y i wr => ∃ bn bc p, p ≤ n ∧ x = .slice (some ⟨bn, 0, none⟩) (m + 1) (m + 1) ∧ y = .slice (some ⟨bc, 0, none⟩) (m + 1) (m + 1) ∧ i = .int .i64 ((p : Int) - 1) ∧ Tab w wr f g got n m p bn bc) (fun _ _ i _ => (intOf i + 1).toNat)
    case atStart => exact ⟨_, _, n, Nat.le_refl _, rfl, rfl, rfl, T.out⟩
    case round =>
      obtain ⟨bn, bc, p, hp, rfl, rfl, rfl, hT⟩ := hrel
      cases p with
      | zero =>
        have hcell := hT.ret
        go_wp2
        go_ret
        exact ⟨rfl, hT.below⟩
      | succ q =>
        rw [show (((q + 1 : Nat) : Int) - 1) = (q : Int) by omega]
        have hI := hT.enter
        clear hT T
        go_wp2
        obtain ⟨wo, rfl⟩ : ∃ wo : World, wo = wr := ⟨_, rfl⟩
        go_loopw [11] (fun i wr => ∃ j, j ≤ m + 1 ∧ i = .int .i64 (j : Nat) ∧ Tin w wr f g got n m q bn bc j) (fun i _ => m + 1 - (intOf i).toNat)
        case atStart => exact ⟨0, Nat.zero_le _, rfl, hI⟩
        case round =>
          clear hI
          obtain ⟨j, hj, rfl, hI⟩ := hrel
          by_cases hjm : j ≤ m
          · have g1 : wr.cell? ⟨bn, j, none⟩ = some (.bool (dp f g got n m (n - (q + 1)) j)) := hI.next.cell (by omega)
            have g2 : j < m → wr.cell? ⟨bn, j + 1, none⟩ = some (.bool (dp f g got n m (n - (q + 1)) (j + 1))) := fun h => hI.next.cell (by omega)
            have g3 : wr.cell? ⟨b, off + q, none⟩ = some (.string (f q)) := (hI.below.cell (p := ⟨b, off + q, none⟩) hlt).trans (hc.out q (by omega))
            have g4 : wr.cell? ⟨b1, off1 + q, none⟩ = some (.bool (g q)) := (hI.below.cell (p := ⟨b1, off1 + q, none⟩) hlt1).trans (hc1.out q (by omega))
            obtain ⟨z, g5, g6⟩ : ∃ z : Bool, wr.cell? ⟨bc, j, none⟩ = some (.bool z) ∧ wr.frozen? ⟨bc, j, none⟩ = false := by
              obtain ⟨F, hF⟩ := hI.cur
              exact ⟨F j, by simpa using hF.cell (i := j) (by omega), hF.frozen j⟩
            have HV : Hid (dp f g got n m (n - q) j = ((decide (j < m) && decide (got j = f q) && dp f g got n m (n - (q + 1)) (j + 1)) || (g q && dp f g got n m (n - (q + 1)) j))) := dp_step hp j
            generalize hy : g q = y at HV g4
            generalize hx0 : dp f g got n m (n - (q + 1)) j = x0 at HV g1
            generalize hx1 : dp f g got n m (n - (q + 1)) (j + 1) = x1 at HV g2
            clear hy hx0 hx1
            by_cases h1 : j < m
            · first
                | exact (none_in hc2 h1).elim
                | (have g7 : wr.cell? ⟨b2, off2 + j, none⟩ = some (.string (got j)) := (hI.below.cell (p := ⟨b2, off2 + j, none⟩) hlt2).trans (hc2.out j h1)
                   have g2' := g2 h1
                   clear g2
                   by_cases h2 : got j = f q
                   · have h2' : ((got j).toList == (f q).toList) = true := by rw [h2]; simp
                     have HV' : Hid (dp f g got n m (n - q) j = (x1 || (y && x0))) := hid' (by have := HV.out; simpa [h1, h2] using this)
                     clear h2 HV
                     cases x1 <;> cases y <;> cases x0
                     all_goals
                       go_wp2
                       go_quiet (fail)
                       go_wp2
                       go_roundw
                       case rel => exact ⟨j + 1, by omega, by go_num, hI.step HV'.out _⟩
                       case measure => simp [intOf]; omega
                   · have h2' : ((got j).toList == (f q).toList) = false := by
                       rw [beq_eq_false_iff_ne]; intro h; apply h2
                       rw [ByteArray.toList_eq, ByteArray.toList_eq] at h
                       cases hA : got j; cases hB : f q; rw [hA, hB] at h; simp at h; simp [h]
                     have HV' : Hid (dp f g got n m (n - q) j = (y && x0)) := hid' (by have := HV.out; simpa [h1, h2] using this)
                     clear h2 HV
                     cases y <;> cases x0
                     all_goals
                       go_wp2
                       go_quiet (fail)
                       go_wp2
                       go_roundw
                       case rel => exact ⟨j + 1, by omega, by go_num, hI.step HV'.out _⟩
                       case measure => simp [intOf]; omega)
            · have h1' : decide ((j : Int) < (m : Int)) = false := by simp; omega
              have HV' : Hid (dp f g got n m (n - q) j = (y && x0)) := hid' (by have := HV.out; simpa [h1] using this)
              clear HV g2
              cases y <;> cases x0
              all_goals
                go_wp2
                go_quiet (fail)
                go_wp2
                go_roundw
                case rel => exact ⟨j + 1, by omega, by go_num, hI.step HV'.out _⟩
                case measure => simp [intOf]; omega
          · obtain rfl : j = m + 1 := by omega
            have hL := hI.leave
            clear hI
            go_wp2
            go_roundw
            case rel => exact ⟨bc, bn, q, by omega, rfl, rfl, rfl, hL⟩
            case measure => simp [intOf]

end Go.Proofs.Qxb6602934aMods
