import Derived.Test.Qxb6616888aRoles
namespace Go.Proofs.Qxb6616888a
open Go.RowKit Go.ChangeMaps

/-- The policy's block: where can_assign and can_revoke lie. -/
def PolAt (w : World) (p A R : Nat) : Prop := ∃ a b c, w.heap[p]? = some (.cells #[.map a, .map b, .pointer none, .map c, .map (some A), .map (some R)] 50 (0, 0))

set_option maxRecDepth 100000 in
theorem newPolicy_any (w : World) :
    Calls Try.prog 11 #[] w fun e w' => e = .returned (rp (w.heap.size + 5)) ∧ PolAt w' (w.heap.size + 5) (w.heap.size + 3) (w.heap.size + 4) ∧ VMap w' (w.heap.size + 3) [] ∧ VMap w' (w.heap.size + 4) [] ∧ Below w.heap.size w w' ∧ w'.heap.size = w.heap.size + 6 := by
  have hmm := @run_makeMap Try.prog
  go_enter Try.func11, Try.ntmps11
  go_wp2
  go_ret
  refine ⟨rfl, ?_, ?_, ?_, ?_, ?_⟩
  · unfold PolAt
    rw [heap_alloc_if, if_pos (by simp only [World.size_alloc])]
    exact ⟨_, _, _, rfl⟩
  · refine ⟨#[], 0, ?_, MapKept.stamped_empty 0, rfl⟩
    simp only [heap_alloc_if, World.size_alloc]
    repeat (first | rw [if_pos trivial] | rw [if_pos (by omega)] | rw [if_neg (by omega)])
  · refine ⟨#[], 0, ?_, MapKept.stamped_empty 0, rfl⟩
    simp only [heap_alloc_if, World.size_alloc]
    repeat (first | rw [if_pos trivial] | rw [if_pos (by omega)] | rw [if_neg (by omega)])
  · repeat (refine Below.alloc ?_ (by first | omega | (simp only [World.size_alloc]; omega)) _)
    exact Below.refl _ _
  · simp only [World.size_alloc]

/-- An entry: admin, low, high, the role that its condition names. -/
abbrev Ent := Nat × Nat × Nat × Option Nat
/-- Its condition as a text: 'r' and the number; or 'true'. -/
def condS : Option Nat → ByteArray
  | some c => ⟨#[114]⟩ ++ decS c
  | none => ⟨#[116, 114, 117, 101]⟩
abbrev keyE (ρ : Nat → Nat) (e : Ent) : Value := tup (ρ e.1) (condS e.2.2.2) (ρ e.2.1) (ρ e.2.2.1)
/-- What the prerequisite's names hold. -/
def namesKV (ρ : Nat → Nat) : Option Nat → List (Value × Value)
  | some c => [(rp (ρ c), .bool true)]
  | none => []
/-- All four below 256. -/
def EntOk (e : Ent) : Prop := e.1 < 256 ∧ e.2.1 < 256 ∧ e.2.2.1 < 256 ∧ ∀ c, e.2.2.2 = some c → c < 256

/-- v leads to a prerequisite that names c; all of it lies from B0 on. -/
def PreAt (w : World) (B0 : Nat) (ρ : Nat → Nat) (v : Value) (c : Option Nat) : Prop :=
  ∃ pb nb, v = rp pb ∧ B0 ≤ pb ∧ B0 ≤ nb ∧ w.heap[pb]? = some (.cells #[.nilFunc, .map (some nb)] 55 (0, 0)) ∧ VMap w nb (namesKV ρ c)

theorem PreAt.grown {w w' : World} {B0 : Nat} {ρ : Nat → Nat} {v : Value} {c : Option Nat} {X : Option Nat} (h : PreAt w B0 ρ v c) (hg : w.grownBy w' X) (hX : ∀ x, X = some x → x < B0) : PreAt w' B0 ρ v c := by
  obtain ⟨pb, nb, rfl, h1, h2, h3, h4⟩ := h
  have l1 : pb < w.heap.size := (Array.getElem?_eq_some_iff.1 h3).1
  have n1 : some pb ≠ X := fun e => by have := hX pb e.symm; omega
  have n2 : some nb ≠ X := fun e => by have := hX nb e.symm; omega
  exact ⟨pb, nb, rfl, h1, h2, by rw [hg.block pb l1 n1]; exact h3, h4.of_block (hg.block nb h4.lt n2)⟩

/-- Block b holds the entries E. -/
def PolMap (w : World) (b B0 : Nat) (ρ : Nat → Nat) (E : List Ent) : Prop :=
  ∃ kv : List (Value × Value), VMap w b kv ∧ kv.map (·.1) = E.map (keyE ρ) ∧ ∀ (i : Nat) (p : Value × Value) (e : Ent), kv[i]? = some p → E[i]? = some e → PreAt w B0 ρ p.2 e.2.2.2

theorem PolMap.grown {w w' : World} {b B0 : Nat} {ρ : Nat → Nat} {E : List Ent} {X : Option Nat} (h : PolMap w b B0 ρ E) (hg : w.grownBy w' X) (hX : ∀ x, X = some x → x < B0 ∧ x ≠ b) : PolMap w' b B0 ρ E := by
  obtain ⟨kv, h1, h2, h3⟩ := h
  exact ⟨kv, h1.of_block (hg.block b h1.lt (fun e => (hX b e.symm).2 rfl)), h2, fun i p e hp he => (h3 i p e hp he).grown hg (fun x hx => (hX x hx).1)⟩

/-- The roles stand. -/
structure Roles (w : World) (ρ : Nat → Nat) : Prop where
  role : ∀ j, j < 256 → IsRole w (ρ j)
  inj : ∀ i j, i < 256 → j < 256 → ρ i = ρ j → i = j

theorem Roles.grown {w w' : World} {ρ : Nat → Nat} {X : Option Nat} (h : Roles w ρ) (hg : w.grownBy w' X) (hX : ∀ x, X = some x → ∀ j, j < 256 → ρ j ≠ x) : Roles w' ρ := by
  refine ⟨fun j hj => ?_, h.inj⟩
  obtain ⟨c, hc⟩ := h.role j hj
  exact ⟨c, by rw [hg.block _ (h.role j hj).lt (fun e => hX _ e.symm j hj rfl)]; exact hc⟩

theorem condS_inj : ∀ {a b : Option Nat}, (∀ c, a = some c → c < 256) → (∀ c, b = some c → c < 256) → condS a = condS b → a = b
  | none, none, _, _, _ => rfl
  | some x, some y, hx, hy, h => by
    have h1 := congrArg (fun s : ByteArray => s.data.toList) h
    simp [condS] at h1
    rw [dec_inj (hx x rfl) (hy y rfl) h1]
  | some x, none, hx, _, h => by
    have h1 := congrArg (fun s : ByteArray => s.data.toList) h
    simp [condS] at h1
  | none, some y, _, hy, h => by
    have h1 := congrArg (fun s : ByteArray => s.data.toList) h
    simp [condS] at h1

theorem keyE_inj {w : World} {ρ : Nat → Nat} (h : Roles w ρ) {e e' : Ent} (he : EntOk e) (he' : EntOk e') (hk : keyE ρ e = keyE ρ e') : e = e' := by
  obtain ⟨h1, h2, h3, h4⟩ := tup_inj hk
  obtain ⟨a, l, hh, c⟩ := e
  obtain ⟨a', l', hh', c'⟩ := e'
  have q1 := h.inj _ _ he.1 he'.1 h1
  have q2 := h.inj _ _ he.2.1 he'.2.1 h3
  have q3 := h.inj _ _ he.2.2.1 he'.2.2.1 h4
  have q4 := condS_inj he.2.2.2 he'.2.2.2 h2
  simp only at q1 q2 q3 q4
  rw [q1, q2, q3, q4]

theorem keyE_KT {w : World} {ρ : Nat → Nat} (h : Roles w ρ) {e : Ent} (he : EntOk e) : KT w (keyE ρ e) :=
  ⟨_, _, _, _, rfl, h.role _ he.1, h.role _ he.2.1, h.role _ he.2.2.1⟩

/-- An entry goes into the map's list if it is not there. -/
def ins (E : List Ent) (e : Ent) : List Ent := if e ∈ E then E else E ++ [e]

/-- The store into can_assign or can_revoke. -/
theorem PolMap.put {w : World} {b B0 : Nat} {ρ : Nat → Nat} {E : List Ent} (h : PolMap w b B0 ρ E) (hr : Roles w ρ) (hE : ∀ x ∈ E, EntOk x) {e : Ent} (he : EntOk e) {v : Value} (hv : PreAt w B0 ρ v e.2.2.2) (hb : b < B0) :
    ∃ w', (Instr.mapUpdate 47 (.map (some b)) (keyE ρ e) v).run Try.prog w = .ok () w' ∧ w.grownBy w' (some b) ∧ w'.heap.size = w.heap.size ∧ PolMap w' b B0 ρ (ins E e) := by
  obtain ⟨kv, h1, h2, h3⟩ := h
  have hlen : kv.length = E.length := by have := congrArg List.length h2; simpa using this
  have hK : ∀ p ∈ kv, KT w p.1 := fun p hp => by
    have : p.1 ∈ E.map (keyE ρ) := by rw [← h2]; exact List.mem_map.2 ⟨p, hp, rfl⟩
    obtain ⟨x, hx, hxe⟩ := List.mem_map.1 this
    rw [← hxe]
    exact keyE_KT hr (hE x hx)
  obtain ⟨w', hrun, hg, hsz, hcase⟩ := h1.put (keyT w) Try.underlying47 hK (keyE_KT hr he) v
  refine ⟨w', hrun, hg, hsz, ?_⟩
  have hX : ∀ x, some b = some x → x < B0 := fun x hx => by cases hx; exact hb
  rcases hcase with ⟨hno, hm⟩ | ⟨j, u, hj, hm⟩
  · have hne : e ∉ E := fun hin => by
      have : keyE ρ e ∈ kv.map (·.1) := by rw [h2]; exact List.mem_map.2 ⟨e, hin, rfl⟩
      obtain ⟨p, hp, hpe⟩ := List.mem_map.1 this
      exact hno p hp hpe
    rw [ins, if_neg hne]
    refine ⟨_, hm, by simp [h2], fun i p x hp hx => ?_⟩
    by_cases hi : i < kv.length
    · rw [List.getElem?_append_left hi] at hp
      rw [List.getElem?_append_left (by omega)] at hx
      exact (h3 i p x hp hx).grown hg hX
    · have hi2 := (List.getElem?_eq_some_iff.1 hp).1
      simp at hi2
      have e1 : i = kv.length := by omega
      subst e1
      rw [List.getElem?_append_right (Nat.le_refl _)] at hp
      rw [List.getElem?_append_right (by omega), hlen] at hx
      simp at hp hx
      subst hp; subst hx
      exact hv.grown hg hX
  · have hkj : (E.map (keyE ρ))[j]? = some (keyE ρ e) := by rw [← h2, List.getElem?_map, hj]; rfl
    rw [List.getElem?_map] at hkj
    obtain ⟨x0, hx0, hx1⟩ := Option.map_eq_some_iff.1 hkj
    have hin : x0 ∈ E := List.mem_of_getElem? hx0
    have hxe : x0 = e := keyE_inj hr (hE x0 hin) he hx1
    rw [hxe] at hx0 hin
    rw [ins, if_pos hin]
    have hjl : j < kv.length := (List.getElem?_eq_some_iff.1 hj).1
    refine ⟨_, hm, ?_, fun i p x hp hx => ?_⟩
    · rw [List.map_set, h2]
      apply List.ext_getElem?
      intro i
      by_cases hi : i = j
      · subst hi
        rw [List.getElem?_set_self (by simp; omega), List.getElem?_map, hx0]; rfl
      · rw [List.getElem?_set_ne (by omega)]
    · by_cases hi : i = j
      · subst hi
        rw [List.getElem?_set_self hjl] at hp
        rw [hx0] at hx
        cases hp; cases hx
        exact hv.grown hg hX
      · rw [List.getElem?_set_ne (by omega)] at hp
        exact (h3 i p x hp hx).grown hg hX

end Go.Proofs.Qxb6616888a
