/- The walk of FnChangedByIsWhetherApplyingChanges. -/
import Derived.Test.Qxb6603275aModsEq
import Derived.Deep.WholeRow
namespace Go.Proofs.Qxb6603275aMods.fnChangedByIsWhetherApplyingChanges
open Go.RowKit Go.Maps Go.Proofs.Qxb6603275aMods
set_option linter.unusedVariables false

/-- The access with the changes of V below k applied. -/
def app (A : Nat → Bool) (V : Nat → Option Bool) (k p : Nat) : Bool := if p < k then (V p).getD (A p) else A p

theorem chB_app (A : Nat → Bool) (V : Nat → Option Bool) : chB A V = !(accEq (app A V 14) A) := by
  by_cases h : accEq (app A V 14) A = true
  · rw [h, chB_no (fun p hp v hv => ?_)]
    · rfl
    · have := (accEq_iff _ _).1 h p hp
      simp only [app, if_pos hp, hv, Option.getD_some] at this
      exact this
  · have : ∃ p, p < 14 ∧ app A V 14 p ≠ A p := by
      refine Classical.byContradiction fun hn => h ((accEq_iff _ _).2 fun p hp => ?_)
      exact Classical.byContradiction fun hne => hn ⟨p, hp, hne⟩
    obtain ⟨p, hp, hne⟩ := this
    simp only [app, if_pos hp] at hne
    cases hV : V p with
    | none => rw [hV] at hne; exact absurd rfl hne
    | some v =>
      rw [hV, Option.getD_some] at hne
      rw [chB_yes hp (by rw [hV]; cases hA : A p <;> cases v <;> simp_all)]
      simp [h]

/-- The law's own variables: the argument's box (block w.heap.size), 'applied' (block g), the change (a map of its own). -/
structure St (w wr : World) (A : Nat → Bool) (V : Nat → Option Bool) (ref : Option Nat) (g k : Nat) : Prop where
  box : wr.heap[w.heap.size]? = some (.cells (acc A) 22)
  app : wr.heap[g]? = some (.cells (acc (app A V k)) 22)
  map : MapAt 30 wr ref V
  below : Below w.heap.size w wr
  ne : w.heap.size < g
theorem St.later {w wr wx : World} {A : Nat → Bool} {V : Nat → Option Bool} {ref : Option Nat} {g k : Nat} (h : St w wr A V ref g k) (hb : Below wr.heap.size wr wx) : St w wx A V ref g k :=
  ⟨(hb.block _ (Array.getElem?_eq_some_iff.1 h.box).1).trans h.box, (hb.block _ (Array.getElem?_eq_some_iff.1 h.app).1).trans h.app, h.map.below hb, h.below.trans (hb.mono h.below.size), h.ne⟩
theorem St.start {w w2 : World} {A : Nat → Bool} {V : Nat → Option Bool} {ref : Option Nat} (hb : Below (w.heap.size + 1) (w.alloc (.cells (acc A) 22)) w2) (hm : MapAt 30 w2 ref V) : St w (w2.alloc (.cells (acc A) 22)) A V ref w2.heap.size 0 := by
  have hs := hb.size
  simp at hs
  refine ⟨?_, ?_, hm.below ((Below.refl _ _).alloc (Nat.le_refl _) _), ?_, by omega⟩
  · rw [Below.heap_alloc _ _ _ (by omega), hb.block _ (by simp)]
    exact heap_alloc_last w _
  · rw [heap_alloc_last, acc_congr (A := A) (B := fnChangedByIsWhetherApplyingChanges.app A V 0) (fun p _ => by simp [fnChangedByIsWhetherApplyingChanges.app])]
  · exact (((Below.refl _ _).alloc (Nat.le_refl _) _).trans (hb.mono (by simp))).alloc (by omega) _
theorem St.skip {w wr : World} {A : Nat → Bool} {V : Nat → Option Bool} {ref : Option Nat} {g k : Nat} (h : St w wr A V ref g k) (hV : V k = none) : St w wr A V ref g (k + 1) := by
  refine ⟨h.box, ?_, h.map, h.below, h.ne⟩
  rw [h.app, acc_congr (A := fnChangedByIsWhetherApplyingChanges.app A V k) (fun p _ => ?_)]
  simp only [fnChangedByIsWhetherApplyingChanges.app]
  by_cases e : p = k
  · subst e; simp [hV]
  · by_cases hlt : p < k
    · rw [if_pos hlt, if_pos (by omega)]
    · rw [if_neg hlt, if_neg (by omega)]
theorem St.put {w wr : World} {A : Nat → Bool} {V : Nat → Option Bool} {ref : Option Nat} {g k : Nat} (h : St w wr A V ref g k) (hk : k < 14) {v : Bool} (hV : V k = some v) : St w (wr.setCell ⟨g, k, none⟩ (.bool v)) A V ref g (k + 1) := by
  refine ⟨?_, ?_, ?_, h.below.setCell (Nat.le_of_lt h.ne) _, h.ne⟩
  · rw [heap_setCell_other _ _ _ _ (by have := h.ne; simp; omega)]; exact h.box
  · rw [heap_setCell_same _ _ _ _ _ _ h.app, acc_set _ _ _ hk, acc_congr (B := fnChangedByIsWhetherApplyingChanges.app A V (k + 1)) (fun p _ => ?_)]
    simp only [fnChangedByIsWhetherApplyingChanges.app]
    by_cases e : p = k
    · subst e; simp [hV]
    · rw [if_neg e]
      by_cases hlt : p < k
      · rw [if_pos hlt, if_pos (by omega)]
      · rw [if_neg hlt, if_neg (by omega)]
  · rcases h.map with hm | ⟨b, D, h1, h2, h3⟩
    · exact Or.inl hm
    · refine Or.inr ⟨b, D, h1, h2.setCell (fun e => ?_) _, h3⟩
      obtain ⟨es, c, hb, _⟩ := h2
      have e' : b = g := e
      rw [e', h.app] at hb
      cases hb

set_option maxHeartbeats 400000 in
theorem walk (A : Nat → Bool) (V : Nat → Option Bool) (ref : Option Nat) (w : World) (h : MapIn 3 w ref V) :
    Calls Trym.prog 3 #[.agg (acc A), .map ref] w fun e w' => e = .returned (.bool true) ∧ Below w.heap.size w w' := by
  have h0 := h.below ((Below.refl _ _).alloc (Nat.le_refl _) (.cells (acc A) 22))
  obtain ⟨n, hlen⟩ := len_at Trym.underlying23 h0
  have H0 := hid' h0
  clear h h0
  by_cases hn : 65536 < n
  · go_enter Trym.func3, Trym.ntmps3
    go_wp2_with fail
    go_ret
    exact ⟨rfl, (Below.refl _ _).alloc (Nat.le_refl _) _⟩
  · go_enter Trym.func3, Trym.ntmps3
    go_wp2_with fail
    clear hlen
    refine (valid6 ref V _ H0.out).mono ?_
    rintro e w1 ⟨⟨r, rfl⟩, rfl⟩
    cases r
    · go_wp2_with fail
      go_ret
      exact ⟨rfl, (Below.refl _ _).alloc (Nat.le_refl _) _⟩
    go_wp2_with fail
    refine (clone7 ref V _ H0.out).mono ?_
    rintro e w1 ⟨r1, rfl, hm1, hb1⟩
    have HM1 := hid' hm1
    have HB1 := hid' hb1
    clear hm1 hb1
    go_wp2_with fail
    refine (to8 r1 V _ HM1.out.toIn).mono ?_
    rintro e w2 ⟨r2, rfl, hm2, hb2⟩
    have HB2 := hid' ((HB1.out.trans (hb2.mono HB1.out.size)).mono (B' := w.heap.size + 1) (by simp))
    have HS := hid' (St.start HB2.out hm2)
    have hg0 : w2.heap[w.heap.size]? = some (.cells (acc A) 22) := (HB2.out.block _ (Nat.lt_succ_self _)).trans (heap_alloc_last w _)
    have hg := heap_alloc_last w2 (.cells #[.bool false, .bool false, .bool false, .bool false, .bool false, .bool false, .bool false, .bool false, .bool false, .bool false, .bool false, .bool false, .bool false, .bool false] 22)
    clear hm2 hb2
    go_wp2_with (first | (refine wpList_load_row rfl 22 _ rfl w.heap.size rfl 22 (acc A) (0, 0) _ hg0 Trym.underlying22 rfl (by kernel_rfl) ?_) | (refine wpList_store_row rfl 22 _ _ rfl w2.heap.size (acc A) rfl rfl 22 _ hg (by kernel_rfl) rfl (acc_one _) ?_; rw [World.setRow_alloc_new]))
    clear hg0 hg
    generalize hgs : w2.heap.size = g at HS ⊢
    clear hgs
    go_loopw [7] (fun i wr => ∃ k : Nat, k ≤ 14 ∧ i = .int .i64 k ∧ St w wr A V r2 g k) (fun i _ => 14 - (intOf i).toNat)
    case atStart => exact ⟨0, Nat.zero_le _, rfl, HS.out⟩
    case round =>
      clear HS HB2
      obtain ⟨k, hk, rfl, hS⟩ := hrel
      by_cases hkn : k < 14
      · have hl := look_at Trym.underlying27 law30 key30 hS.map.toIn hkn
        have g1 : ∃ u : Bool, wr.cell? ⟨g, k, none⟩ = some (.bool u) := ⟨_, by rw [cell_of_row _ _ _ _ _ _ hS.app, acc_at _ hkn]⟩
        obtain ⟨u, g1⟩ := g1
        have g2 : wr.frozen? ⟨g, k, none⟩ = false := frozen_of_row _ _ _ _ _ hS.app
        cases hV : V k with
        | none =>
          rw [hV] at hl
          have HS := hid' (hS.skip hV)
          clear hV hS
          go_wp2
          go_roundw
          case rel => exact ⟨k + 1, by omega, by go_num, HS.out⟩
          case measure => simp [intOf]; omega
        | some v =>
          rw [hV] at hl
          have HS := hid' (hS.put hkn hV)
          clear hV hS
          go_wp2
          go_roundw
          case rel => exact ⟨k + 1, by omega, by go_num, HS.out⟩
          case measure => simp [intOf]; omega
      · obtain rfl : k = 14 := by omega
        have hb0 := hS.box
        have HS := hid' hS
        clear hS
        go_wp2_with (refine wpList_load_row rfl 22 _ rfl w.heap.size rfl 22 (acc A) (0, 0) _ hb0 Trym.underlying22 rfl (by kernel_rfl) ?_)
        refine (zzchg9 A V r2 wr HS.out.map).mono ?_
        rintro e w3 ⟨he, hb3⟩
        rw [chB_app] at he
        subst he
        have hS3 := HS.out.later hb3
        have hb0 := hS3.box
        have hb1 := hS3.app
        have heq := eq22 (app A V 14) A
        have hgd := guard22
        have HB := hid' hS3.below
        clear hS3 hb3 HS
        go_wp2_with (first | (refine wpList_load_row rfl 22 _ rfl g rfl 22 (acc (app A V 14)) (0, 0) _ hb1 Trym.underlying22 rfl (by kernel_rfl) ?_) | (refine wpList_load_row rfl 22 _ rfl w.heap.size rfl 22 (acc A) (0, 0) _ hb0 Trym.underlying22 rfl (by kernel_rfl) ?_))
        go_ret
        exact ⟨rfl, HB.out⟩

end Go.Proofs.Qxb6603275aMods.fnChangedByIsWhetherApplyingChanges
