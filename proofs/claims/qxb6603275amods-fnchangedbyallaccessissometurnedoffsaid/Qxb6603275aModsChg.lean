/- Access: AllAccess, changedBy, ZZAccessChangedBy. -/
import Derived.Test.Qxb6603275aModsMap
namespace Go.Proofs.Qxb6603275aMods
open Go.RowKit Go.Maps
set_option linter.unusedVariables false

/-- Fourteen bools, as a value's cells. -/
def acc (A : Nat → Bool) : Array Value := #[.bool (A 0), .bool (A 1), .bool (A 2), .bool (A 3), .bool (A 4), .bool (A 5), .bool (A 6), .bool (A 7), .bool (A 8), .bool (A 9), .bool (A 10), .bool (A 11), .bool (A 12), .bool (A 13)]

theorem acc_at (A : Nat → Bool) {p : Nat} (hp : p < 14) : (acc A)[p]? = some (.bool (A p)) := by
  match p, hp with
  | 0, _ | 1, _ | 2, _ | 3, _ | 4, _ | 5, _ | 6, _ | 7, _ | 8, _ | 9, _ | 10, _ | 11, _ | 12, _ | 13, _ => rfl
theorem acc_cell (A : Nat → Bool) (w : World) (T : TypeId) {p : Nat} (hp : p < 14) : (w.alloc (.cells (acc A) T)).cell? ⟨w.heap.size, p, none⟩ = some (.bool (A p)) := by
  have h1 : (w.alloc (.cells (acc A) T)).heap[w.heap.size]? = some (.cells (acc A) T) := (MapKept.heap_alloc w _).1
  simp only [World.cell?]
  rw [h1]
  exact acc_at A hp

/-- Does the change V turn anything of A? -/
def chB (A : Nat → Bool) (V : Nat → Option Bool) : Bool := (List.range 14).any fun p => V p == some (!A p)
theorem chB_yes {A : Nat → Bool} {V : Nat → Option Bool} {p : Nat} (hp : p < 14) (h : V p = some (!A p)) : chB A V = true := by
  unfold chB; rw [List.any_eq_true]; exact ⟨p, List.mem_range.2 hp, by rw [h]; simp⟩
theorem chB_no {A : Nat → Bool} {V : Nat → Option Bool} (h : ∀ p, p < 14 → ∀ v, V p = some v → v = A p) : chB A V = false := by
  rw [Bool.eq_false_iff]; intro hc
  unfold chB at hc; rw [List.any_eq_true] at hc
  obtain ⟨p, hp, he⟩ := hc
  have he' : V p = some (!A p) := by simpa using he
  have := h p (List.mem_range.1 hp) _ he'
  cases hA : A p <;> rw [hA] at this <;> cases this

set_option maxHeartbeats 400000 in
theorem chg11_nil (A : Nat → Bool) (w : World) :
    Calls Trym.prog 11 #[.agg (acc A), .map none] w fun e w' => e = .returned (.bool false) ∧ Below w.heap.size w w' := by
  have hrg := run_range_nilMap (P := Trym.prog) (w.alloc (.cells (acc A) 32)) 27 30 4 Trym.underlying27
  have hnx : ∀ ty, (Instr.next (.pointer (some ⟨(w.alloc (.cells (acc A) 32)).heap.size, 0, none⟩)) false ty).run Trym.prog ((w.alloc (.cells (acc A) 32)).alloc (.mapIter none 0 #[] 0)) = _ := fun ty => run_next_nilMap _ ty 0 0 #[]
  have e1 : (w.alloc (.cells (acc A) 32)).heap.size = w.heap.size + 1 := by simp
  rw [e1] at hrg hnx
  go_enter Trym.func11, Trym.ntmps11
  go_wp2
  refine wp_loop_rounds 1 ?_
  rw [rounds_succ]
  go_wp2
  go_ret
  exact ⟨rfl, ((Below.refl _ _).alloc (Nat.le_refl _) _).alloc (by simp) _⟩

theorem invK30 (key : Value) (kl : Lit) (h : keyOf Trym.prog 30 key = some kl) : ∃ x, key = Value.int .i64 x := by
  obtain ⟨x, h1, _⟩ := Maps.keyOf_int_inv Trym.underlying30 h
  exact ⟨x, h1⟩
theorem invV4 (v : Value) (y : DataW Unit × List MemPlace) (h : plainElem Trym.prog 4 v = some y) : ∃ c, v = Value.bool c := by
  obtain ⟨x, h1, _⟩ := RB_inv h
  exact ⟨x, h1⟩

/-- At the head of a round: what is still to come is there; what is no longer to come agrees with A. -/
structure Rng (w wr : World) (A : Nat → Bool) (V : Nat → Option Bool) (b : Nat) (D : DataW Unit) (left : Lit → Bool) (cnt : Nat) : Prop where
  rg : wr.ranges Trym.prog 30 (plainElem Trym.prog 4) b (w.heap.size + 1) 14 D left cnt
  sub : ∀ kl, left kl = true → Maps.has D kl = true
  seen : ∀ p, p < 14 → ∀ v, V p = some v → left (kL p) = false → v = A p
  below : Below (w.heap.size + 1) (w.alloc (.cells (acc A) 32)) wr

/-- .. behind a step: one key p more is no longer to come, and nothing is said of it yet. -/
structure Rng1 (w wr : World) (A : Nat → Bool) (V : Nat → Option Bool) (b : Nat) (D : DataW Unit) (left : Lit → Bool) (cnt : Nat) (q : Nat) : Prop where
  rg : wr.ranges Trym.prog 30 (plainElem Trym.prog 4) b (w.heap.size + 1) 14 D left cnt
  sub : ∀ kl, left kl = true → Maps.has D kl = true
  seen : ∀ p, p < 14 → p ≠ q → ∀ v, V p = some v → left (kL p) = false → v = A p
  below : Below (w.heap.size + 1) (w.alloc (.cells (acc A) 32)) wr

theorem old_of {w wr : World} {A : Nat → Bool} (h : Below (w.heap.size + 1) (w.alloc (.cells (acc A) 32)) wr) : Below w.heap.size w wr :=
  ((Below.refl _ _).alloc (Nat.le_refl _) _).trans (h.mono (Nat.le_succ _))
theorem Rng.old {w wr : World} {A : Nat → Bool} {V : Nat → Option Bool} {b : Nat} {D : DataW Unit} {left : Lit → Bool} {cnt : Nat} (h : Rng w wr A V b D left cnt) : Below w.heap.size w wr := old_of h.below
theorem Rng1.old {w wr : World} {A : Nat → Bool} {V : Nat → Option Bool} {b : Nat} {D : DataW Unit} {left : Lit → Bool} {cnt q : Nat} (h : Rng1 w wr A V b D left cnt q) : Below w.heap.size w wr := old_of h.below
theorem Rng1.box {w wr : World} {A : Nat → Bool} {V : Nat → Option Bool} {b : Nat} {D : DataW Unit} {left : Lit → Bool} {cnt q : Nat} (h : Rng1 w wr A V b D left cnt q) {p : Nat} (hp : p < 14) : wr.cell? ⟨w.heap.size, p, none⟩ = some (.bool (A p)) :=
  (h.below.cell (p := ⟨w.heap.size, p, none⟩) (Nat.lt_succ_self _)).trans (acc_cell A w 32 hp)
theorem Rng1.agree {w wr : World} {A : Nat → Bool} {V : Nat → Option Bool} {b : Nat} {D : DataW Unit} {left : Lit → Bool} {cnt q : Nat} (h : Rng1 w wr A V b D left cnt q) (hq : q < 14) {c : Bool} (hV : V q = some c) (hc : c = A q) : Rng w wr A V b D left cnt :=
  ⟨h.rg, h.sub, fun p hp v hv hl => (by
    by_cases e : p = q
    · subst e; rw [hV] at hv; cases hv; exact hc
    · exact h.seen p hp e v hv hl), h.below⟩
theorem Rng.step {w wr w1 : World} {A : Nat → Bool} {V : Nat → Option Bool} {b : Nat} {D : DataW Unit} {left : Lit → Bool} {cnt cnt1 : Nat} (h : Rng w wr A V b D left cnt) (hD : MapIs D V) {x : Int} {c : Bool} {kl : Lit} {y : DataW Unit × List MemPlace}
    (hkey : keyOf Trym.prog 30 (.int .i64 x) = some kl) (hlk : left kl = true) (hv : plainElem Trym.prog 4 (.bool c) = some y) (hat : ∀ zd, D.atKey kl zd = y.1)
    (hrg : w1.ranges Trym.prog 30 (plainElem Trym.prog 4) b (w.heap.size + 1) 14 D (fun z => left z && !z.sameKey kl) cnt1) (hg : wr.grownBy w1 (some (w.heap.size + 1))) :
    ∃ p : Nat, p < 14 ∧ x = (p : Int) ∧ V p = some c ∧ Rng1 w w1 A V b D (fun z => left z && !z.sameKey kl) cnt1 p := by
  obtain ⟨p, hp, rfl⟩ := hD.keys kl (h.sub kl hlk)
  obtain ⟨x', e1, e2, _⟩ := Maps.keyOf_int_inv Trym.underlying30 hkey
  injection e1 with _ e1
  subst e1
  unfold kL at e2
  injection e2 with _ e2
  obtain ⟨c', e3, rfl⟩ := RB_inv hv
  injection e3 with e3
  subst e3
  have hV : V p = some c := by
    cases hVp : V p with
    | none => have := hD.has p hp; rw [hVp, h.sub _ hlk] at this; cases this
    | some u =>
      have h1 := hD.at_ p hp u hVp .nil
      rw [hat .nil] at h1
      injection h1 with h1
      injection h1 with h1
      rw [h1]
  refine ⟨p, hp, e2.symm, hV, hrg, fun kl' hl => h.sub kl' ?_, fun p' hp' hne v hv' hl => h.seen p' hp' v hv' ?_, h.below.grown hg (by have := h.below.size; simpa using this) (fun j hj => by cases hj; exact Nat.le_refl _)⟩
  · simp only [Bool.and_eq_true] at hl; exact hl.1
  · have : (kL p').sameKey (kL p) = false := Maps.sameKey_ne (fun e => hne (kL_inj e))
    rw [this] at hl
    simpa using hl

set_option maxHeartbeats 400000 in
theorem chg11_some (A : Nat → Bool) (V : Nat → Option Bool) (b : Nat) (D : DataW Unit) (w : World) (hown : w.ownsMap Trym.prog 30 (plainElem Trym.prog 4) b 14 D) (hD : MapIs D V) :
    Calls Trym.prog 11 #[.agg (acc A), .map (some b)] w fun e w' => e = .returned (.bool (chB A V)) ∧ Below w.heap.size w w' := by
  obtain ⟨w0, hrun, hrg0, hg0, hs0⟩ := (hown.alloc (.cells (acc A) 32)).range law30 Trym.underlying27
  have e1 : (w.alloc (.cells (acc A) 32)).heap.size = w.heap.size + 1 := by simp
  rw [e1] at hrun hrg0 hs0
  have hR0 : Rng w w0 A V b D (Maps.has D) (Maps.size D) := ⟨hrg0, fun _ h => h, fun p hp v hv hl => (by rw [hD.has p hp, hv] at hl; cases hl),
    (Below.refl _ _).grown hg0 (by simp) (fun j hj => by cases hj)⟩
  have HR0 := hid' hR0
  have HD := hid' hD
  clear hrg0 hg0 hs0 e1 hR0 hD hown
  go_enter Trym.func11, Trym.ntmps11
  go_wp2
  go_loopw [9] (fun _ wr => ∃ left cnt, Rng w wr A V b D left cnt) (fun _ wr => wr.rangeLeft b (w.heap.size + 1))
  case atStart => exact ⟨_, _, HR0.out⟩
  case round =>
    clear hrun HR0
    obtain ⟨left, cnt, hR⟩ := hrel
    have hrg := hR.rg
    have HR := hid' hR
    clear hR
    rcases hrg.next law30 0 with ⟨hc0, hl0, hnext⟩ | ⟨key, v, kl, y, w1, cnt1, hkey, hlk, hv, hat, hnext, hrg1, hlt, hg1, hs1, hen⟩
    · have hB : chB A V = false := chB_no (fun p hp v hv => HR.out.seen p hp v hv (hl0 _))
      have HB := hid' hB
      clear hB hc0 hl0 hrg
      go_wp2
      go_ret
      exact ⟨by rw [HB.out]; rfl, HR.out.old⟩
    · obtain ⟨x, rfl⟩ := invK30 key kl hkey
      obtain ⟨c, rfl⟩ := invV4 v y hv
      obtain ⟨p, hp, hx, hVp, hR1⟩ := HR.out.step HD.out hkey hlk hv hat hrg1 hg1
      subst hx
      have hcell := hR1.box hp
      have HR1 := hid' hR1
      have HL := hid' hlt
      have HV := hid' hVp
      have hle := hrg.left_eq
      have HLe := hid' hle
      clear hR1 hlt hVp hg1 hkey hlk hv hat hrg1 hs1 hrg hle
      generalize hAp : A p = ap at hcell
      have HA := hid' hAp
      clear hAp
      cases hc : (ap == c)
      · have HC := hid' (show V p = some (!A p) from by rw [HV.out, HA.out]; cases ap <;> cases c <;> simp_all)
        go_wp2
        go_ret
        exact ⟨by rw [chB_yes hp HC.out]; rfl, HR1.out.old⟩
      · have HC := hid' (show c = A p from by rw [HA.out]; cases ap <;> cases c <;> simp_all)
        go_wp2
        go_roundw
        case rel => exact ⟨_, _, HR1.out.agree hp HV.out HC.out⟩
        case measure => rw [HLe.out, HR1.out.rg.left_eq]; exact HL.out

theorem chg11 (A : Nat → Bool) (V : Nat → Option Bool) (ref : Option Nat) (w : World) (h : MapAt 30 w ref V) :
    Calls Trym.prog 11 #[.agg (acc A), .map ref] w fun e w' => e = .returned (.bool (chB A V)) ∧ Below w.heap.size w w' := by
  rcases h with ⟨rfl, hV⟩ | ⟨b, D, rfl, h2, h3⟩
  · rw [chB_no (fun p hp v hv => by rw [hV p hp] at hv; cases hv)]
    exact chg11_nil A w
  · exact chg11_some A V b D w h2 h3

set_option maxHeartbeats 400000 in
theorem zzchg9 (A : Nat → Bool) (V : Nat → Option Bool) (ref : Option Nat) (w : World) (h : MapAt 30 w ref V) :
    Calls Trym.prog 9 #[.agg (acc A), .map ref] w fun e w' => e = .returned (.bool (chB A V)) ∧ Below w.heap.size w w' := by
  have HC := hid' (chg11 A V ref (w.alloc (.cells (acc A) 32)) (h.below ((Below.refl _ _).alloc (Nat.le_refl _) _)))
  clear h
  have hg : (w.alloc (.cells (acc A) 32)).heap[w.heap.size]? = some (.cells (acc A) 32) := (MapKept.heap_alloc w _).1
  go_enter Trym.func9, Trym.ntmps9
  go_wp2_with (refine wpList_load_row rfl 32 _ rfl w.heap.size rfl 32 (acc A) (0, 0) _ hg Trym.underlying32 rfl (by kernel_rfl) ?_)
  clear hg
  refine HC.out.mono ?_
  rintro e w1 ⟨rfl, hb⟩
  have HB := hid' (((Below.refl w.heap.size w).alloc (Nat.le_refl _) (.cells (acc A) 32)).trans (hb.mono (by simp)))
  clear hb
  go_wp2
  go_ret
  exact ⟨rfl, HB.out⟩

theorem acc_size (A : Nat → Bool) : (acc A).size = 14 := rfl
theorem acc_none (A : Nat → Bool) {p : Nat} (hp : ¬ p < 14) : (acc A)[p]? = none := by
  rw [Array.getElem?_eq_none]; rw [acc_size]; omega
theorem acc_set (A : Nat → Bool) (k : Nat) (v : Bool) (hk : k < 14) : (acc A).setIfInBounds k (.bool v) = acc (fun p => if p = k then v else A p) := by
  apply Array.ext_getElem?
  intro i
  rw [Array.getElem?_setIfInBounds]
  by_cases hi : i < 14
  · rw [acc_at (fun p => if p = k then v else A p) hi]
    by_cases e : k = i
    · subst e; simp [acc_size, hk]
    · rw [if_neg e, acc_at A hi]
      have : ¬ i = k := fun h => e h.symm
      simp [this]
  · rw [acc_none _ hi, if_neg (by omega), acc_none _ hi]
theorem acc_congr {A B : Nat → Bool} (h : ∀ p, p < 14 → A p = B p) : acc A = acc B := by
  unfold acc
  rw [h 0 (by omega), h 1 (by omega), h 2 (by omega), h 3 (by omega), h 4 (by omega), h 5 (by omega), h 6 (by omega), h 7 (by omega), h 8 (by omega), h 9 (by omega), h 10 (by omega), h 11 (by omega), h 12 (by omega), h 13 (by omega)]
theorem acc_one (A : Nat → Bool) : (acc A).all (·.oneCell') = true := by simp [acc, Value.oneCell']

/-- AllAccess's loop: k permissions have been turned on in the second block. -/
structure AllL (w wr : World) (k : Nat) : Prop where
  b0 : wr.heap[w.heap.size]? = some (.cells (acc fun _ => false) 32)
  b1 : wr.heap[w.heap.size + 1]? = some (.cells (acc fun p => decide (p < k)) 32)
  below : Below w.heap.size w wr
theorem AllL.start (w : World) : AllL w ((w.alloc (.cells (acc fun _ => false) 32)).alloc (.cells (acc fun _ => false) 32)) 0 := by
  refine ⟨?_, ?_, ((Below.refl _ _).alloc (Nat.le_refl _) _).alloc (by simp) _⟩
  · rw [heap_alloc2_old]
  · rw [heap_alloc2_new]; rw [acc_congr (B := fun p => decide (p < 0)) (fun p _ => by simp)]
theorem AllL.step {w wr : World} {k : Nat} (h : AllL w wr k) (hk : k < 14) : AllL w (wr.setCell ⟨w.heap.size + 1, k, none⟩ (.bool true)) (k + 1) := by
  refine ⟨?_, ?_, h.below.setCell (Nat.le_succ _) _⟩
  · rw [heap_setCell_other _ _ _ _ (by simp)]; exact h.b0
  · rw [heap_setCell_same _ _ _ _ _ _ h.b1, acc_set _ _ _ hk]
    rw [acc_congr (B := fun p => decide (p < k + 1)) (fun p _ => ?_)]
    by_cases e : p = k
    · subst e; simp
    · by_cases hlt : p < k
      · simp [e, hlt]; omega
      · simp [e, hlt]; omega

theorem below_setRow {B : Nat} {w wr : World} (h : Below B w wr) {g : Nat} (hg : B ≤ g) (cs : Array Value) : Below B w (wr.setRow g cs) :=
  h.trans ⟨rfl, rfl, rfl, by simp, fun k hk => setRow_other _ _ _ _ (by omega)⟩

set_option maxHeartbeats 400000 in
theorem all10 (w : World) : Calls Trym.prog 10 #[] w fun e w' => e = .returned (.agg (acc fun _ => true)) ∧ Below w.heap.size w w' := by
  have HS := hid' (AllL.start w)
  go_enter Trym.func10, Trym.ntmps10
  go_wp2
  go_loopw [3] (fun i wr => ∃ k : Nat, k ≤ 14 ∧ i = .int .i64 k ∧ AllL w wr k) (fun i _ => 14 - (intOf i).toNat)
  case atStart => exact ⟨0, Nat.zero_le _, rfl, HS.out⟩
  case round =>
    clear HS
    obtain ⟨k, hk, rfl, hA⟩ := hrel
    by_cases hkn : k < 14
    · have g1 : wr.cell? ⟨w.heap.size + 1, k, none⟩ = some (.bool (decide (k < k))) := by rw [cell_of_row _ _ _ _ _ _ hA.b1, acc_at _ hkn]
      have g2 : wr.frozen? ⟨w.heap.size + 1, k, none⟩ = false := frozen_of_row _ _ _ _ _ hA.b1
      have HA := hid' (hA.step hkn)
      clear hA
      go_wp2
      go_roundw
      case rel => exact ⟨k + 1, by omega, by go_num, HA.out⟩
      case measure => simp [intOf]; omega
    · obtain rfl : k = 14 := by omega
      have hb0 := hA.b0
      have hb1 := hA.b1
      rw [acc_congr (B := fun _ => true) (fun p hp => by simp [hp])] at hb1
      have HA := hid' hA
      clear hA
      go_wp2_with (first | (refine wpList_load_row rfl 32 _ rfl (w.heap.size + 1) rfl 32 (acc fun _ => true) (0, 0) _ hb1 Trym.underlying32 rfl (by kernel_rfl) ?_) | (refine wpList_store_row rfl 32 _ _ rfl w.heap.size (acc fun _ => true) rfl rfl 32 (acc fun _ => false) hb0 (by kernel_rfl) rfl (acc_one _) ?_))
      exact bodyPost_ret (v := .agg (acc fun _ => true)) (results_cell_row Trym.results10 _ _ w.heap.size 32 (acc fun _ => true) (0, 0) _ rfl (setRow_heap _ _ _ _ _ _ hb0) Trym.underlying32 rfl (by kernel_rfl)) rfl ⟨rfl, below_setRow HA.out.below (Nat.le_refl _) _⟩

end Go.Proofs.Qxb6603275aMods
