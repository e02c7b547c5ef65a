import Derived.Test.Qxb6617744aBase
namespace Go.Proofs.Qxb6617744a
open Go.RowKit Go.Maps

/-! No Go in sight: keys and sizes. -/
theorem len_le_of_sub {α : Type} [DecidableEq α] : ∀ (l1 l2 : List α), l1.Pairwise (· ≠ ·) → (∀ x ∈ l1, x ∈ l2) → l1.length ≤ l2.length
  | [], _, _, _ => Nat.zero_le _
  | x :: r, l2, hp, hs => by
    obtain ⟨h1, h2⟩ := List.pairwise_cons.1 hp
    have hx : x ∈ l2 := hs x (by simp)
    have := len_le_of_sub r (l2.erase x) h2 (fun y hy => (List.mem_erase_of_ne (h1 y hy).symm).2 (hs y (by simp [hy])))
    have h3 := List.length_erase_of_mem hx
    have h4 := List.length_pos_of_mem hx
    simp only [List.length_cons]
    omega

theorem sub_back {α : Type} [DecidableEq α] (l1 l2 : List α) (h1 : l1.Pairwise (· ≠ ·)) (hs : ∀ x ∈ l1, x ∈ l2) (hl : l1.length = l2.length) : ∀ y ∈ l2, y ∈ l1 := by
  intro y hy
  by_cases hm : y ∈ l1
  · exact hm
  · have := len_le_of_sub (y :: l1) l2 (List.pairwise_cons.2 ⟨fun a ha e => hm (e ▸ ha), h1⟩) (fun x hx => by
      rcases List.mem_cons.1 hx with rfl | hx
      · exact hy
      · exact hs x hx)
    simp only [List.length_cons] at this
    omega

/-- Entries, no key twice, each key a key. -/
def Good {H : Type} (D : DataW H) : Prop := ∃ es, D = .map es ∧ es.Pairwise (fun p q => p.1 ≠ q.1) ∧ ∀ p ∈ es, WideAt.IsKeyLit p.1

theorem MapIs.good {H : Type} {w : World} {v : Value} {D : DataW H} (h : MapIs w v D) : Good D := by
  rcases h with ⟨_, rfl⟩ | ⟨b, n, _, hown⟩
  · exact ⟨[], rfl, List.Pairwise.nil, by simp⟩
  · exact hown.entries law9

theorem has_iff {H : Type} {es : List (Lit × DataW H)} (hk : ∀ p ∈ es, WideAt.IsKeyLit p.1) (kl : Lit) : Maps.has (.map es) kl = true ↔ kl ∈ es.map (·.1) := by
  rw [Maps.has_eq, List.any_eq_true]
  constructor
  · rintro ⟨p, hp, hs⟩
    exact List.mem_map.2 ⟨p, hp, WideAt.sameKey_eq hs⟩
  · intro hm
    obtain ⟨p, hp, rfl⟩ := List.mem_map.1 hm
    exact ⟨p, hp, WideAt.sameKey_self (hk p hp)⟩

theorem pw_map {H : Type} {es : List (Lit × DataW H)} (h : es.Pairwise (fun p q => p.1 ≠ q.1)) : (es.map (·.1)).Pairwise (· ≠ ·) := List.pairwise_map.2 h

theorem Sel.refl {H : Type} (D : DataW H) : Sel D D := fun _ h => ⟨h, rfl⟩
theorem Sel.trans {H : Type} {A B C : DataW H} (h1 : Sel A B) (h2 : Sel B C) : Sel A C := fun kl h =>
  ⟨(h2 kl (h1 kl h).1).1, (h2 kl (h1 kl h).1).2.trans (h1 kl h).2⟩

theorem Sel.keys {H : Type} {A B : List (Lit × DataW H)} (ha : ∀ p ∈ A, WideAt.IsKeyLit p.1) (hb : ∀ p ∈ B, WideAt.IsKeyLit p.1) (h : Sel (.map A) (.map B)) : ∀ x ∈ A.map (·.1), x ∈ B.map (·.1) :=
  fun x hx => (has_iff hb x).1 (h x ((has_iff ha x).2 hx)).1

theorem Sel.size_le {H : Type} {A B : DataW H} (ga : Good A) (gb : Good B) (h : Sel A B) : Maps.size A ≤ Maps.size B := by
  classical
  obtain ⟨ea, rfl, pa, ka⟩ := ga
  obtain ⟨eb, rfl, pb, kb⟩ := gb
  have := len_le_of_sub _ _ (pw_map pa) (Sel.keys ka kb h)
  simpa [Maps.size] using this

theorem Sel.back {H : Type} {A B : DataW H} (ga : Good A) (gb : Good B) (h : Sel A B) (hl : Maps.size A = Maps.size B) : Sel B A := by
  classical
  obtain ⟨ea, rfl, pa, ka⟩ := ga
  obtain ⟨eb, rfl, pb, kb⟩ := gb
  intro kl hk
  have h1 := sub_back _ _ (pw_map pa) (Sel.keys ka kb h) (by simpa [Maps.size] using hl) kl ((has_iff kb kl).1 hk)
  have h2 := (has_iff ka kl).2 h1
  exact ⟨h2, (h kl h2).2.symm⟩

end Go.Proofs.Qxb6617744a
