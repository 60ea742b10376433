/- Maps of this program, seen as functions of the keys 0 .. 13; the walks of zzValidChange, zzCloneChange, zzToChange. -/
import Derived.Test.Qxb6603275aModsRows
import Derived.WalkKit
import Derived.WalkSpells
import Derived.WalkLawsBesides
import Derived.Maps.OwnSet
import Derived.Maps.RangeWalk
namespace Go.Proofs.Qxb6603275aMods
open Go.RowKit Go.Maps
set_option linter.unusedVariables false

theorem hid' {p : Prop} (h : p) : Hid p := h

theorem law3 : Keyed Trym.prog 3 := int_keyed Trym.underlying3
theorem law30 : Keyed Trym.prog 30 := int_keyed Trym.underlying30
theorem zero4 (w : World) : (zeroValue 4).run Trym.prog w = .ok (.bool false) w := by kernel_rfl
theorem mk23 (w : World) : (Instr.makeMap 23 (some (.int .i64 14))).run Trym.prog w = .ok (.map (some w.heap.size)) (w.alloc (.map #[] 0)) := by kernel_rfl
theorem mk27 (w : World) : (Instr.makeMap 27 (some (.int .i64 14))).run Trym.prog w = .ok (.map (some w.heap.size)) (w.alloc (.map #[] 0)) := by kernel_rfl

/-- The key p, as it reads. -/
def kL (p : Nat) : Lit := .int .i64 p
theorem kL_inj {p q : Nat} (h : kL p = kL q) : p = q := by unfold kL at h; injection h with _ h; omega
theorem kL_key (p : Nat) : WideAt.IsKeyLit (kL p) := trivial
theorem kL_wf {p : Nat} (h : p < 14) : (Lit.int .i64 (p : Int)).wf = true := WalkArith.wf_i64 (by omega)
theorem key3 {p : Nat} (h : p < 14) : keyOf Trym.prog 3 (.int .i64 (p : Int)) = some (kL p) := keyOf_int_mk Trym.underlying3 (kL_wf h)
theorem key30 {p : Nat} (h : p < 14) : keyOf Trym.prog 30 (.int .i64 (p : Int)) = some (kL p) := keyOf_int_mk Trym.underlying30 (kL_wf h)

theorem RB_inv {v : Value} {z : DataW Unit × List MemPlace} (h : plainElem Trym.prog 4 v = some z) : ∃ x, v = .bool x ∧ z = (.lit (.bool x), []) := by
  unfold plainElem at h
  rw [Trym.underlying4] at h
  cases v <;> simp at h
  exact ⟨_, rfl, h.symm⟩

/-- On the keys 0 .. 13 the map reads as V. -/
structure MapPre (D : DataW Unit) (V : Nat → Option Bool) : Prop where
  has : ∀ p, p < 14 → Maps.has D (kL p) = (V p).isSome
  at_ : ∀ p, p < 14 → ∀ v, V p = some v → ∀ z, D.atKey (kL p) z = .lit (.bool v)
structure MapIs (D : DataW Unit) (V : Nat → Option Bool) : Prop extends MapPre D V where
  keys : ∀ kl, Maps.has D kl = true → ∃ p, p < 14 ∧ kl = kL p

/-- A map that came in: nil, or a block that reads on 0 .. 13 as V. -/
def MapIn (K : TypeId) (w : World) (ref : Option Nat) (V : Nat → Option Bool) : Prop :=
  (ref = none ∧ ∀ p, p < 14 → V p = none) ∨ ∃ b n D, ref = some b ∧ w.ownsMap Trym.prog K (plainElem Trym.prog 4) b n D ∧ MapPre D V
/-- A map of this program's own: no other key than 0 .. 13. -/
def MapAt (K : TypeId) (w : World) (ref : Option Nat) (V : Nat → Option Bool) : Prop :=
  (ref = none ∧ ∀ p, p < 14 → V p = none) ∨ ∃ b D, ref = some b ∧ w.ownsMap Trym.prog K (plainElem Trym.prog 4) b 14 D ∧ MapIs D V
theorem MapAt.toIn {K : TypeId} {w : World} {ref : Option Nat} {V : Nat → Option Bool} (h : MapAt K w ref V) : MapIn K w ref V := by
  rcases h with h | ⟨b, D, h1, h2, h3⟩
  · exact Or.inl h
  · exact Or.inr ⟨b, 14, D, h1, h2, h3.toMapPre⟩

theorem owns_below {K : TypeId} {w w' : World} {b n B : Nat} {D : DataW Unit} (h : w.ownsMap Trym.prog K (plainElem Trym.prog 4) b n D) (hb : Below B w w') (hB : b < B) : w'.ownsMap Trym.prog K (plainElem Trym.prog 4) b n D := by
  obtain ⟨es, clock, h1, h2⟩ := h
  exact ⟨es, clock, (hb.block b hB).trans h1, h2⟩
theorem MapIn.below {K : TypeId} {w w' : World} {ref : Option Nat} {V : Nat → Option Bool} (h : MapIn K w ref V) (hb : Below w.heap.size w w') : MapIn K w' ref V := by
  rcases h with h | ⟨b, n, D, h1, h2, h3⟩
  · exact Or.inl h
  · exact Or.inr ⟨b, n, D, h1, owns_below h2 hb h2.lt, h3⟩
theorem MapAt.below {K : TypeId} {w w' : World} {ref : Option Nat} {V : Nat → Option Bool} (h : MapAt K w ref V) (hb : Below w.heap.size w w') : MapAt K w' ref V := by
  rcases h with h | ⟨b, D, h1, h2, h3⟩
  · exact Or.inl h
  · exact Or.inr ⟨b, D, h1, owns_below h2 hb h2.lt, h3⟩

/-- 'v, ok := m[p]'. -/
theorem look_at {T K : TypeId} (hT : Trym.prog.underlying T = some (.map K 4)) (hK : Keyed Trym.prog K) (hk : ∀ {p : Nat}, p < 14 → keyOf Trym.prog K (.int .i64 (p : Int)) = some (kL p))
    {w : World} {ref : Option Nat} {V : Nat → Option Bool} (h : MapIn K w ref V) {p : Nat} (hp : p < 14) :
    (Instr.lookup T (.map ref) (.int .i64 (p : Int)) true).run Trym.prog w = .ok (.tuple #[.bool ((V p).getD false), .bool (V p).isSome]) w := by
  rcases h with ⟨rfl, hV⟩ | ⟨b, n, D, rfl, h2, h3⟩
  · have := Maps.look_nil (w := w) true hK hT (zero4 w) (hk hp)
    rw [hV p hp]; simpa using this
  · obtain ⟨v, ps, hrun, hv⟩ := h2.look_ok hK hT (zero4 w) (plainElem_bool Trym.underlying4 false) (hk hp)
    obtain ⟨x, rfl, hx⟩ := RB_inv hv
    rw [hrun, h3.has p hp]
    simp only [Prod.mk.injEq] at hx
    cases hVp : V p with
    | none =>
      have h0 : Maps.has D (kL p) = false := by rw [h3.has p hp, hVp]; rfl
      have := hx.1
      rw [Maps.atKey_of_not_has h0] at this
      injection this with this
      injection this with this
      rw [← this]; rfl
    | some v =>
      have := hx.1
      rw [h3.at_ p hp v hVp] at this
      injection this with this
      injection this with this
      rw [← this]; rfl

/-- 'len(m)'. -/
theorem len_at {T K : TypeId} (hT : Trym.prog.underlying T = some (.map K 4)) {w : World} {ref : Option Nat} {V : Nat → Option Bool} (h : MapIn K w ref V) : ∃ n : Nat, ∀ ty, (Builtin.len_ #[T] ty #[.map ref]).run Trym.prog w = .ok (.int .i64 n) w := by
  rcases h with ⟨rfl, hV⟩ | ⟨b, n, D, rfl, h2, h3⟩
  · exact ⟨0, fun ty => Maps.len_nil hT ty⟩
  · exact ⟨_, fun ty => h2.len hT ty⟩

theorem MapIs.empty : MapIs (.map [] : DataW Unit) (fun _ => none) :=
  ⟨⟨fun _ _ => rfl, nofun⟩, nofun⟩
theorem MapIs.put {D : DataW Unit} {V V' : Nat → Option Bool} (h : MapIs D V) (hm : IsMap D) {q : Nat} (hq : q < 14) {v : Bool} (h1 : V' q = some v) (h2 : ∀ p, p < 14 → p ≠ q → V' p = V p) : MapIs (D.put (kL q) (.lit (.bool v))) V' := by
  refine ⟨⟨fun p hp => ?_, fun p hp u hu z => ?_⟩, fun kl hkl => ?_⟩
  · by_cases e : p = q
    · subst e; rw [h1, Maps.has_put_same hm (kL_key p)]; rfl
    · rw [h2 p hp e, Maps.has_put_other (fun h => e (kL_inj h)), h.has p hp]
  · by_cases e : p = q
    · subst e; rw [h1] at hu; cases hu; rw [Maps.atKey_put_same hm (kL_key p)]
    · rw [h2 p hp e] at hu; rw [Maps.atKey_put_other (fun h => e (kL_inj h)), h.at_ p hp u hu]
  · by_cases e : kl = kL q
    · exact ⟨q, hq, e⟩
    · rw [Maps.has_put_other e] at hkl; exact h.keys kl hkl
theorem MapIs.same {D : DataW Unit} {V V' : Nat → Option Bool} (h : MapIs D V) (h2 : ∀ p, p < 14 → V' p = V p) : MapIs D V' :=
  ⟨⟨fun p hp => by rw [h2 p hp, h.has p hp], fun p hp u hu z => h.at_ p hp u (by rw [← h2 p hp, hu]) z⟩, h.keys⟩

def RetBool (e : Ending) : Prop := ∃ r : Bool, e = .returned (.bool r)
theorem retBool (r : Bool) : RetBool (.returned (.bool r)) := ⟨r, rfl⟩

set_option maxHeartbeats 400000 in
theorem valid6 (ref : Option Nat) (V : Nat → Option Bool) (w : World) (h : MapIn 3 w ref V) :
    Calls Trym.prog 6 #[.map ref] w fun e w' => RetBool e ∧ w' = w := by
  obtain ⟨n, hlen⟩ := len_at Trym.underlying23 h
  have HL := hid' (fun p (hp : p < 14) => look_at Trym.underlying23 law3 key3 h hp)
  clear h
  go_enter Trym.func6, Trym.ntmps6
  go_wp2
  go_loop [3, 4] (fun z i => (∃ q : Int, z = .int .i64 q) ∧ ∃ k : Nat, k ≤ 14 ∧ i = .int .i64 k) (fun _ i => 14 - (intOf i).toNat)
  case atStart => exact ⟨⟨_, rfl⟩, 0, Nat.zero_le _, rfl⟩
  case round =>
    obtain ⟨⟨q, rfl⟩, k, hk, rfl⟩ := hrel
    by_cases hkn : k < 14
    · have hl := HL.out k hkn
      generalize (V k).isSome = ok at hl
      generalize (V k).getD false = v at hl
      cases ok
      all_goals
        go_wp2
        go_round
        case rel => exact ⟨⟨_, rfl⟩, k + 1, by omega, by go_num⟩
        case measure => simp [intOf]; omega
    · go_wp2
      go_ret
      exact ⟨retBool _, rfl⟩

/-- What a copy hands back: a map of the call's own that reads as V; nothing that was there has turned. -/
def Copied (K : TypeId) (w : World) (V : Nat → Option Bool) (e : Ending) (w' : World) : Prop := ∃ ref, e = .returned (.map ref) ∧ MapAt K w' ref V ∧ Below w.heap.size w w'

/-- Keys below k have been copied. -/
def upTo (V : Nat → Option Bool) (k p : Nat) : Option Bool := if p < k then V p else none
structure Cop (K : TypeId) (w wr : World) (V : Nat → Option Bool) (k : Nat) : Prop where
  own : ∃ D, wr.ownsMap Trym.prog K (plainElem Trym.prog 4) w.heap.size k D ∧ MapIs D (upTo V k)
  below : Below w.heap.size w wr
theorem Cop.start (K : TypeId) (w : World) (V : Nat → Option Bool) : Cop K w (w.alloc (.map #[] 0)) V 0 :=
  ⟨⟨_, World.ownsMap_made w _ _ _, MapIs.empty.same (fun p _ => by simp [upTo])⟩, (Below.refl _ _).alloc (Nat.le_refl _) _⟩
theorem Cop.skip {K : TypeId} {w wr : World} {V : Nat → Option Bool} {k : Nat} (h : Cop K w wr V k) (hV : V k = none) : Cop K w wr V (k + 1) := by
  obtain ⟨⟨D, h1, h2⟩, h3⟩ := h
  refine ⟨⟨D, h1.mono (Nat.le_succ _), h2.same (fun p _ => ?_)⟩, h3⟩
  unfold upTo
  by_cases e : p = k
  · subst e; simp [hV]
  · by_cases hlt : p < k
    · rw [if_pos hlt, if_pos (by omega)]
    · rw [if_neg hlt, if_neg (by omega)]
theorem Cop.put {T K : TypeId} (hT : Trym.prog.underlying T = some (.map K 4)) (hK : Keyed Trym.prog K) (hk : ∀ {p : Nat}, p < 14 → keyOf Trym.prog K (.int .i64 (p : Int)) = some (kL p))
    {w wr : World} {V : Nat → Option Bool} {k : Nat} (h : Cop K w wr V k) (hk14 : k < 14) {v : Bool} (hV : V k = some v) :
    ∃ w1, (Instr.mapUpdate T (.map (some w.heap.size)) (.int .i64 (k : Int)) (.bool v)).run Trym.prog wr = .ok () w1 ∧ Cop K w w1 V (k + 1) := by
  obtain ⟨⟨D, h1, h2⟩, h3⟩ := h
  obtain ⟨w1, hrun, hown, hg⟩ := h1.update hK hT (by unfold maxLen; omega) (hk hk14) (plainElem_bool Trym.underlying4 v)
  refine ⟨w1, hrun, ⟨_, hown, h2.put h1.isMap hk14 (by simp [upTo, hV]) (fun p _ hp => ?_)⟩, h3.grown hg h3.size (fun j hj => by cases hj; exact Nat.le_refl _)⟩
  unfold upTo
  by_cases hlt : p < k
  · rw [if_pos hlt, if_pos (by omega)]
  · rw [if_neg hlt, if_neg (by omega)]
theorem Cop.done {K : TypeId} {w wr : World} {V : Nat → Option Bool} (h : Cop K w wr V 14) : MapAt K wr (some w.heap.size) V := by
  obtain ⟨⟨D, h1, h2⟩, h3⟩ := h
  exact Or.inr ⟨_, D, rfl, h1, h2.same (fun p hp => by simp [upTo, hp])⟩

set_option maxHeartbeats 400000 in
theorem clone7 (ref : Option Nat) (V : Nat → Option Bool) (w : World) (h : MapIn 3 w ref V) :
    Calls Trym.prog 7 #[.map ref] w (Copied 3 w V) := by
  have heq := fun w => run_eql_map_nil (P := Trym.prog) w 23 3 4 ref Trym.underlying23
  have hmk := mk23
  rcases ref with _ | b
  · have hV : ∀ p, p < 14 → V p = none := by
      rcases h with ⟨_, h⟩ | ⟨_, _, _, h, _⟩
      · exact h
      · cases h
    have HV := hid' hV
    clear h hV
    go_enter Trym.func7, Trym.ntmps7
    go_wp2
    go_ret
    exact ⟨none, rfl, Or.inl ⟨rfl, HV.out⟩, Below.refl _ _⟩
  · have HM := hid' h
    clear h
    go_enter Trym.func7, Trym.ntmps7
    go_wp2
    clear heq hmk
    go_loopw [4] (fun i wr => ∃ k : Nat, k ≤ 14 ∧ i = .int .i64 k ∧ Cop 3 w wr V k) (fun i _ => 14 - (intOf i).toNat)
    case atStart => exact ⟨0, Nat.zero_le _, rfl, Cop.start _ _ _⟩
    case round =>
      obtain ⟨k, hk, rfl, hC⟩ := hrel
      by_cases hkn : k < 14
      · have hl := look_at Trym.underlying23 law3 key3 (HM.out.below hC.below) hkn
        cases hV : V k with
        | none =>
          rw [hV] at hl
          have HC := hid' (hC.skip hV)
          clear hV hC
          go_wp2
          go_roundw
          case rel => exact ⟨k + 1, by omega, by go_num, HC.out⟩
          case measure => simp [intOf]; omega
        | some v =>
          rw [hV] at hl
          obtain ⟨w1, hrun, hC1⟩ := hC.put Trym.underlying23 law3 key3 hkn hV
          have HC := hid' hC1
          clear hV hC hC1
          go_wp2
          go_roundw
          case rel => exact ⟨k + 1, by omega, by go_num, HC.out⟩
          case measure => simp [intOf]; omega
      · obtain rfl : k = 14 := by omega
        go_wp2
        go_ret
        exact ⟨_, rfl, hC.done, hC.below⟩

set_option maxHeartbeats 400000 in
theorem to8 (ref : Option Nat) (V : Nat → Option Bool) (w : World) (h : MapIn 3 w ref V) :
    Calls Trym.prog 8 #[.map ref] w (Copied 30 w V) := by
  have heq := fun w => run_eql_map_nil (P := Trym.prog) w 23 3 4 ref Trym.underlying23
  have hmk := mk27
  rcases ref with _ | b
  · have hV : ∀ p, p < 14 → V p = none := by
      rcases h with ⟨_, h⟩ | ⟨_, _, _, h, _⟩
      · exact h
      · cases h
    have HV := hid' hV
    clear h hV
    go_enter Trym.func8, Trym.ntmps8
    go_wp2
    go_ret
    exact ⟨none, rfl, Or.inl ⟨rfl, HV.out⟩, Below.refl _ _⟩
  · have HM := hid' h
    clear h
    go_enter Trym.func8, Trym.ntmps8
    go_wp2
    clear heq hmk
    go_loopw [4] (fun i wr => ∃ k : Nat, k ≤ 14 ∧ i = .int .i64 k ∧ Cop 30 w wr V k) (fun i _ => 14 - (intOf i).toNat)
    case atStart => exact ⟨0, Nat.zero_le _, rfl, Cop.start _ _ _⟩
    case round =>
      obtain ⟨k, hk, rfl, hC⟩ := hrel
      by_cases hkn : k < 14
      · have hl := look_at Trym.underlying23 law3 key3 (HM.out.below hC.below) hkn
        cases hV : V k with
        | none =>
          rw [hV] at hl
          have HC := hid' (hC.skip hV)
          clear hV hC
          go_wp2
          go_roundw
          case rel => exact ⟨k + 1, by omega, by go_num, HC.out⟩
          case measure => simp [intOf]; omega
        | some v =>
          rw [hV] at hl
          obtain ⟨w1, hrun, hC1⟩ := hC.put Trym.underlying27 law30 key30 hkn hV
          have HC := hid' hC1
          clear hV hC hC1
          go_wp2
          go_roundw
          case rel => exact ⟨k + 1, by omega, by go_num, HC.out⟩
          case measure => simp [intOf]; omega
      · obtain rfl : k = 14 := by omega
        go_wp2
        go_ret
        exact ⟨_, rfl, hC.done, hC.below⟩

end Go.Proofs.Qxb6603275aMods
