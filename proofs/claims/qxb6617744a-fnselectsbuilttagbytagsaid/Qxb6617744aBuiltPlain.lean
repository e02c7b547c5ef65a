import Derived.Test.Qxb6617744aPlain
namespace Go.Proofs.Qxb6617744a
open Go.RowKit Go.Maps

/-- Two maps that are filled side by side: the second has, besides, V at K (once 'done' says so). -/
structure Built {H : Type} (K : Lit) (V : DataW H) (done : Bool) (Db Dg : DataW H) : Prop where
  nb : Maps.has Db K = false
  other : ∀ kl, kl ≠ K → Maps.has Dg kl = Maps.has Db kl ∧ Dg.atKey kl Z = Db.atKey kl Z
  self : done = true → Maps.has Dg K = true ∧ Dg.atKey K Z = V

section
variable {H : Type} {K : Lit} {V : DataW H} {d : Bool} {Db Dg T : DataW H}

theorem Built.start : Built K V false (.map [] : DataW H) (.map []) := ⟨rfl, fun _ _ => ⟨rfl, rfl⟩, fun h => by cases h⟩

theorem Built.mine (h : Built K V d Db Dg) (hm : IsMap Dg) (hk : WideAt.IsKeyLit K) : Built K V true Db (Dg.put K V) :=
  ⟨h.nb, fun kl hne => ⟨(has_put_other hne _).trans (h.other kl hne).1, (atKey_put_other hne _ _).trans (h.other kl hne).2⟩, fun _ => ⟨has_put_same hm hk _, atKey_put_same hm hk _ _⟩⟩

theorem Built.both (h : Built K V d Db Dg) (hb : IsMap Db) (hg : IsMap Dg) {x : Lit} (hx : WideAt.IsKeyLit x) (hne : x ≠ K) (y : DataW H) : Built K V d (Db.put x y) (Dg.put x y) := by
  refine ⟨(has_put_other hne.symm _).trans h.nb, fun kl hkl => ?_, fun hd => ?_⟩
  · by_cases e : kl = x
    · subst e
      rw [has_put_same hb hx, has_put_same hg hx, atKey_put_same hb hx, atKey_put_same hg hx]
      exact ⟨rfl, rfl⟩
    · rw [has_put_other e, has_put_other e, atKey_put_other e, atKey_put_other e]
      exact h.other kl hkl
  · rw [has_put_other hne.symm, atKey_put_other hne.symm]
    exact h.self hd

theorem Built.sel (h : Built K V true Db Dg) : Sel Dg T ↔ (Sel Db T ∧ Maps.has T K = true ∧ T.atKey K Z = V) := by
  have hs := h.self rfl
  constructor
  · intro hd
    refine ⟨fun kl hk => ?_, (hd K hs.1).1, (hd K hs.1).2.trans hs.2⟩
    have hne : kl ≠ K := fun e => by rw [e, h.nb] at hk; cases hk
    have ho := h.other kl hne
    have := hd kl (ho.1.trans hk)
    exact ⟨this.1, this.2.trans ho.2⟩
  · rintro ⟨h1, h2, h3⟩ kl hk
    by_cases e : kl = K
    · subst e
      exact ⟨h2, h3.trans hs.2.symm⟩
    · have ho := h.other kl e
      have := h1 kl (ho.1.symm.trans hk)
      exact ⟨this.1, this.2.trans ho.2.symm⟩

theorem sel_empty : Sel (.map [] : DataW H) T := fun _ hk => by cases hk

theorem sel_single (hk : WideAt.IsKeyLit K) : Sel ((.map [] : DataW H).put K V) T ↔ (Maps.has T K = true ∧ T.atKey K Z = V) := by
  have := (Built.start (K := K) (V := V)).mine isMap_empty hk
  rw [this.sel]
  exact ⟨fun h => h.2, fun h => ⟨sel_empty, h⟩⟩
end
end Go.Proofs.Qxb6617744a
