/- The walk of FnAllAccessGivesEveryPermission. -/
import Derived.Test.Qxb6603275aModsEq
import Derived.Deep.WholeRow
namespace Go.Proofs.Qxb6603275aMods.fnAllAccessGivesEveryPermission
open Go.RowKit Go.Maps Go.Proofs.Qxb6603275aMods
set_option linter.unusedVariables false

/-- The law's two variables: the argument's box (block w.heap.size) and 'all' (block g). -/
structure St (w wr : World) (A : Nat → Bool) (g : Nat) : Prop where
  box : wr.heap[w.heap.size]? = some (.cells (acc A) 22)
  all : wr.heap[g]? = some (.cells (acc fun _ => true) 32)
  below : Below w.heap.size w wr
theorem St.later {w wr wx : World} {A : Nat → Bool} {g : Nat} (h : St w wr A g) (hb : Below wr.heap.size wr wx) : St w wx A g :=
  ⟨(hb.block _ (Array.getElem?_eq_some_iff.1 h.box).1).trans h.box, (hb.block _ (Array.getElem?_eq_some_iff.1 h.all).1).trans h.all, h.below.trans (hb.mono h.below.size)⟩
theorem St.start {w w1 : World} {A : Nat → Bool} (hb : Below (w.alloc (.cells (acc A) 22)).heap.size (w.alloc (.cells (acc A) 22)) w1) : St w (w1.alloc (.cells (acc fun _ => true) 32)) A w1.heap.size := by
  have hs := hb.size
  simp at hs
  refine ⟨?_, heap_alloc_last w1 _, ?_⟩
  · rw [Below.heap_alloc _ _ _ (by omega), hb.block _ (by simp)]
    exact heap_alloc_last w _
  · exact (((Below.refl _ _).alloc (Nat.le_refl _) _).trans (hb.mono (by simp))).alloc (by omega) _

theorem chB_all (A : Nat → Bool) : (chB A fun _ => some true) = !(accEq (fun _ => true) A) := by
  by_cases h : accEq (fun _ => true) A = true
  · rw [h, chB_no (fun p hp v hv => by cases hv; exact (accEq_iff _ _).1 h p hp)]; rfl
  · have h' : ¬ ∀ p, p < 14 → true = A p := fun hh => h ((accEq_iff _ _).2 hh)
    have : ∃ p, p < 14 ∧ A p = false := by
      refine Classical.byContradiction fun hn => h' fun p hp => ?_
      cases hA : A p
      · exact absurd ⟨p, hp, hA⟩ hn
      · rfl
    obtain ⟨p, hp, hA⟩ := this
    rw [chB_yes hp (by rw [hA]; rfl)]
    simp [h]

set_option maxHeartbeats 400000 in
theorem walk (A : Nat → Bool) (w : World) :
    Calls Trym.prog 5 #[.agg (acc A)] w fun e w' => e = .returned (.bool true) ∧ Below w.heap.size w w' := by
  go_enter Trym.func5, Trym.ntmps5
  go_wp2_with fail
  refine (all10 _).mono ?_
  rintro e w1 ⟨rfl, hb⟩
  have HS := hid' (St.start hb)
  clear hb
  have hg := heap_alloc_last w1 (.cells #[.bool false, .bool false, .bool false, .bool false, .bool false, .bool false, .bool false, .bool false, .bool false, .bool false, .bool false, .bool false, .bool false, .bool false] 32)
  go_wp2_with (refine wpList_store_row rfl 32 _ _ rfl w1.heap.size (acc fun _ => true) rfl rfl 32 _ hg (by kernel_rfl) rfl (acc_one _) ?_; rw [World.setRow_alloc_new])
  clear hg
  generalize hg1 : w1.heap.size = g at HS ⊢
  clear hg1
  go_loopw [4] (fun i wr => ∃ k : Nat, k ≤ 14 ∧ i = .int .i64 k ∧ St w wr A g) (fun i _ => 14 - (intOf i).toNat)
  case atStart => exact ⟨0, Nat.zero_le _, rfl, HS.out⟩
  case round =>
    clear HS
    obtain ⟨k, hk, rfl, hS⟩ := hrel
    by_cases hkn : k < 14
    · have hc : wr.cell? ⟨g, k, none⟩ = some (.bool true) := by rw [cell_of_row _ _ _ _ _ _ hS.all, acc_at _ hkn]
      have HS := hid' hS
      clear hS
      go_wp2
      go_roundw
      case rel => exact ⟨k + 1, by omega, by go_num, HS.out⟩
      case measure => simp [intOf]; omega
    · obtain ⟨wa, rfl⟩ : ∃ wa : World, wa = wr := ⟨_, rfl⟩
      have hmk := mk27
      have HS := hid' hS
      clear hS
      go_wp2
      clear hmk
      go_loopw [6] (fun i wr => ∃ k : Nat, k ≤ 14 ∧ i = .int .i64 k ∧ Cop 30 wa wr (fun _ => some true) k) (fun i _ => 14 - (intOf i).toNat)
      case atStart => exact ⟨0, Nat.zero_le _, rfl, Cop.start _ _ _⟩
      case round =>
        obtain ⟨j, hj, rfl, hC⟩ := hrel
        by_cases hjn : j < 14
        · obtain ⟨w2, hrun, hC2⟩ := hC.put Trym.underlying27 law30 key30 hjn rfl
          have HC := hid' hC2
          clear hC hC2
          go_wp2
          go_roundw
          case rel => exact ⟨j + 1, by omega, by go_num, HC.out⟩
          case measure => simp [intOf]; omega
        · obtain rfl : j = 14 := by omega
          have hS2 := HS.out.later hC.below
          have hb0 := hS2.box
          have hb1 := hS2.all
          have HS2 := hid' hS2
          have HM := hid' hC.done
          have heq := eq22 (fun _ => true) A
          have hgd := guard22
          clear hC hS2
          go_wp2_with (first | (refine wpList_load_row rfl 32 _ rfl g rfl 32 (acc fun _ => true) (0, 0) _ hb1 Trym.underlying32 rfl (by kernel_rfl) ?_) | (refine wpList_load_row rfl 22 _ rfl w.heap.size rfl 22 (acc A) (0, 0) _ hb0 Trym.underlying22 rfl (by kernel_rfl) ?_))
          refine (zzchg9 A (fun _ => some true) _ wr HM.out).mono ?_
          rintro e w3 ⟨he, hb3⟩
          rw [chB_all] at he
          subst he
          have HB := hid' (HS2.out.below.trans (hb3.mono HS2.out.below.size))
          clear hb0 hb1 heq hgd hb3
          generalize accEq (fun _ => true) A = r
          cases r
          all_goals
            go_wp2
            go_ret
            exact ⟨rfl, HB.out⟩

end Go.Proofs.Qxb6603275aMods.fnAllAccessGivesEveryPermission
