/- From the reading of map[int]bool to what the walks take. -/
import Derived.Test.Qxb6603275aModsOpen
namespace Go.Proofs.Qxb6603275aMods
open Go.ChangeShapes Go.WideShapes Go.RowKit Go.Maps
open Go.WideElems (Fit rd rg elemAt rd_val rd_key)

/-- A map that is there reads as a function of its keys. -/
theorem pre_of {w : World} {b n : Nat} {D : DataW Unit} (h : w.ownsMap Trym.prog 3 (plainElem Trym.prog 4) b n D) : ∃ V, MapPre D V := by
  have hx : ∀ p, p < 14 → Maps.has D (kL p) = true → ∃ v : Bool, ∀ z, D.atKey (kL p) z = .lit (.bool v) := by
    intro p hp hh
    obtain ⟨v, ps, _, hv⟩ := h.look_ok law3 Trym.underlying23 (zero4 w) (plainElem_bool Trym.underlying4 false) (key3 hp)
    obtain ⟨x, _, hx⟩ := RB_inv hv
    simp only [Prod.mk.injEq] at hx
    refine ⟨x, fun z => ?_⟩
    obtain ⟨es, rfl⟩ := h.isMap
    obtain ⟨q, hq, hqk⟩ := List.any_eq_true.1 hh
    have hs : (es.find? (fun p' => p'.1.sameKey (kL p))).isSome = true := List.find?_isSome.2 ⟨q, hq, hqk⟩
    obtain ⟨y, hy⟩ := Option.isSome_iff_exists.1 hs
    have h1 := hx.1
    simp only [DataW.atKey, hy] at h1 ⊢
    exact h1
  refine ⟨fun p => if Maps.has D (kL p) then (match D.atKey (kL p) .nil with | .lit (.bool v) => some v | _ => none) else none, fun p hp => ?_, fun p hp v hv z => ?_⟩
  · cases hh : Maps.has D (kL p)
    · simp
    · obtain ⟨v, hv⟩ := hx p hp hh
      simp [hv]
  · cases hh : Maps.has D (kL p)
    · simp [hh] at hv
    · obtain ⟨u, hu⟩ := hx p hp hh
      simp only [hh, if_true, hu] at hv
      cases hv
      exact hu z

theorem open_mp {H : Type} {enc : TypeId × Value → H} {W : World} {r : Reach} {base b0 : Nat} {sp : Nat → Bool} {held : Bool} {v : Value} {d : DataW H} {p : List MemPlace}
    (hv : Value.okWide Trym.prog W r b0 23 v) (h : DataW.Trod enc Trym.prog W base sp held 23 v d p) : ∃ ref V, v = .map ref ∧ MapIn 3 W ref V := by
  obtain ⟨ref, rfl⟩ := okWide_map Trym.underlying23 hv
  obtain ⟨fuel, hf⟩ := h
  rcases WideElems.open_map Trym.underlying23 hf with ⟨hcs, _⟩ | ⟨b, es, clock, m, _, hcs, hb, _, F, _⟩
  · simp [Value.cells] at hcs
    subst hcs
    exact ⟨none, fun _ => none, rfl, Or.inl ⟨rfl, fun _ _ => rfl⟩⟩
  · simp [Value.cells] at hcs
    subst hcs
    have F' : Fit Trym.prog 3 (plainElem (H := Unit) Trym.prog 4) es clock := ⟨F.size, F.stamped, fun x hx => by
      obtain ⟨y, hy⟩ := F.reads x hx
      obtain ⟨z, hz, _⟩ := rd_val hy
      obtain ⟨c, hc, _⟩ := WideElems.elemAt_bool Trym.underlying4 hz
      exact ⟨(y.1, .lit (.bool c)), by simp [rd, rd_key hy, hc, plainElem_bool Trym.underlying4 c]⟩⟩
    have hown : W.ownsMap Trym.prog 3 (plainElem (H := Unit) Trym.prog 4) b es.size _ := ⟨es, clock, hb, F', Nat.le_refl _, rfl⟩
    obtain ⟨V, hV⟩ := pre_of hown
    exact ⟨some b, V, rfl, Or.inr ⟨b, _, _, rfl, hown, hV⟩⟩

end Go.Proofs.Qxb6603275aMods
