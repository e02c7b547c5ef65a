import Derived.Test.Qxb6616888aLaw
import Derived.ProofKit
import Derived.OpenShut
import Derived.Deep.Slices
namespace Go.Proofs.Qxb6616888a
open Go.RowKit Go.Deep

theorem Try.cells30 : Try.prog.cellsOf 30 = 4 := by kernel_rfl
theorem Try.cells33 : Try.prog.cellsOf 33 = 3 := by kernel_rfl

section
variable {H : Type} {enc : TypeId × Value → H} {w : World} {base : Nat} {spare : Nat → Bool} {held : Bool} {fuel : Nat} {cs : List Value} {x : DataW H × List MemPlace}

theorem byte_open (h : DataW.trod enc Try.prog w base spare held fuel 5 cs = some x) : ∃ z : Nat, cs = [.int .u8 z] ∧ z < 256 := by
  obtain ⟨n, rfl, _, hwf⟩ := DataW.trod_int Try.underlying5 h
  have hb := bounds_u8 hwf
  exact ⟨n.toNat, by rw [Int.toNat_of_nonneg hb.1], by omega⟩

theorem arr4_open (h : DataW.trod enc Try.prog w base spare held fuel 30 cs = some x) : ∃ e : E4, cs = [.int .u8 e.1, .int .u8 e.2.1, .int .u8 e.2.2.1, .int .u8 e.2.2.2] ∧ Ok4 e := by
  obtain ⟨xs, m, rfl, _, hl, hxl, hx⟩ := DataW.trod_array Try.underlying30 h
  rw [Try.cells30] at hl
  rw [Try.cells5] at hx
  match cs, hl with
  | [a, b, c, d], _ =>
    have g : ∀ i, i < 4 → ∃ z : Nat, ([a, b, c, d].drop (i * 1)).take 1 = [.int .u8 z] ∧ z < 256 := fun i hi => by
      have h1 := hx i hi
      rw [List.getElem?_eq_getElem (by omega)] at h1
      exact byte_open h1
    obtain ⟨z0, e0, b0⟩ := g 0 (by omega)
    obtain ⟨z1, e1, b1⟩ := g 1 (by omega)
    obtain ⟨z2, e2, b2⟩ := g 2 (by omega)
    obtain ⟨z3, e3, b3⟩ := g 3 (by omega)
    simp at e0 e1 e2 e3
    exact ⟨(z0, z1, z2, z3), by simp [e0, e1, e2, e3], b0, b1, b2, b3⟩
theorem arr3_open (h : DataW.trod enc Try.prog w base spare held fuel 33 cs = some x) : ∃ e : E3, cs = [.int .u8 e.1, .int .u8 e.2.1, .int .u8 e.2.2] ∧ Ok3 e := by
  obtain ⟨xs, m, rfl, _, hl, hxl, hx⟩ := DataW.trod_array Try.underlying33 h
  rw [Try.cells33] at hl
  rw [Try.cells5] at hx
  match cs, hl with
  | [a, b, c], _ =>
    have g : ∀ i, i < 3 → ∃ z : Nat, ([a, b, c].drop (i * 1)).take 1 = [.int .u8 z] ∧ z < 256 := fun i hi => by
      have h1 := hx i hi
      rw [List.getElem?_eq_getElem (by omega)] at h1
      exact byte_open h1
    obtain ⟨z0, e0, b0⟩ := g 0 (by omega)
    obtain ⟨z1, e1, b1⟩ := g 1 (by omega)
    obtain ⟨z2, e2, b2⟩ := g 2 (by omega)
    simp at e0 e1 e2
    exact ⟨(z0, z1, z2), by simp [e0, e1, e2], b0, b1, b2⟩
end

theorem add_pos (a : Addr) (j : Nat) (hj : j ≠ 0) : a.add j = ⟨a.block, a.off + j, none⟩ := by simp [Addr.add, hj]
theorem add_zero' (a : Addr) : a.add 0 = a := by simp [Addr.add]

theorem list_of {α : Type} (f : Nat → α) (n : Nat) : ((List.range n).map f).length = n ∧ ∀ (i : Nat) (e : α), ((List.range n).map f)[i]? = some e → i < n ∧ e = f i := by
  refine ⟨by simp, fun i e h => ?_⟩
  have hi := (List.getElem?_eq_some_iff.1 h).1
  have hi2 : i < n := by simpa using hi
  refine ⟨hi2, ?_⟩
  simp [hi2] at h
  exact h.symm

section
variable {H : Type} {enc : TypeId × Value → H} {w : World} {base : Nat} {spare : Nat → Bool} {held : Bool} {a : Option Addr} {n c : Nat} {d : DataW H} {p : List MemPlace}

theorem rows4 (h : DataW.Trod enc Try.prog w base spare held 22 (.slice a n c) d p) : n ≤ maxLen ∧ ∃ la : List E4, la.length = n ∧ IsRows4 w a la := by
  obtain ⟨fuel, hm⟩ := h
  rcases open_slice Try.underlying22 hm with ⟨h1, _⟩ | ⟨x, len, cap, m, k, D, Pl, h1, _, hl, hcap, hmm, _, hx⟩
  · have h2 : Value.slice a n c = .slice none 0 0 := List.head_eq_of_cons_eq h1
    cases h2
    exact ⟨Nat.zero_le _, [], rfl, .inl rfl⟩
  · have h2 : Value.slice a n c = .slice (some x) len cap := List.head_eq_of_cons_eq h1
    cases h2
    refine ⟨Nat.le_trans hl hcap, ?_⟩
    have hnm : n ≤ m := by rw [hmm]; split <;> omega
    rw [Try.cells30] at hx
    obtain ⟨f, hf⟩ := choose_lt (α := E4) (n := n) (p := fun i e => Row4 w (x.add (i * 4)) e) (fun i hi => by
      obtain ⟨cs', hc, ht⟩ := hx i (by omega)
      obtain ⟨e, rfl, hok⟩ := arr4_open ht
      obtain ⟨_, _, hcell⟩ := World.cells?_some hc
      have c0 := hcell 0 (by omega)
      have c1 := hcell 1 (by omega)
      have c2 := hcell 2 (by omega)
      have c3 := hcell 3 (by omega)
      rw [add_zero'] at c0
      rw [add_pos _ _ (by omega)] at c1 c2 c3
      exact ⟨e, c0, c1, c2, c3, hok⟩)
    obtain ⟨l1, l2⟩ := list_of f n
    exact ⟨_, l1, .inr ⟨x, rfl, fun i e he => by obtain ⟨hi, rfl⟩ := l2 i e he; exact hf i hi⟩⟩
theorem rows3 (h : DataW.Trod enc Try.prog w base spare held 23 (.slice a n c) d p) : n ≤ maxLen ∧ ∃ la : List E3, la.length = n ∧ IsRows3 w a la := by
  obtain ⟨fuel, hm⟩ := h
  rcases open_slice Try.underlying23 hm with ⟨h1, _⟩ | ⟨x, len, cap, m, k, D, Pl, h1, _, hl, hcap, hmm, _, hx⟩
  · have h2 : Value.slice a n c = .slice none 0 0 := List.head_eq_of_cons_eq h1
    cases h2
    exact ⟨Nat.zero_le _, [], rfl, .inl rfl⟩
  · have h2 : Value.slice a n c = .slice (some x) len cap := List.head_eq_of_cons_eq h1
    cases h2
    refine ⟨Nat.le_trans hl hcap, ?_⟩
    have hnm : n ≤ m := by rw [hmm]; split <;> omega
    rw [Try.cells33] at hx
    obtain ⟨f, hf⟩ := choose_lt (α := E3) (n := n) (p := fun i e => Row3 w (x.add (i * 3)) e) (fun i hi => by
      obtain ⟨cs', hc, ht⟩ := hx i (by omega)
      obtain ⟨e, rfl, hok⟩ := arr3_open ht
      obtain ⟨_, _, hcell⟩ := World.cells?_some hc
      have c0 := hcell 0 (by omega)
      have c1 := hcell 1 (by omega)
      have c2 := hcell 2 (by omega)
      rw [add_zero'] at c0
      rw [add_pos _ _ (by omega)] at c1 c2
      exact ⟨e, c0, c1, c2, hok⟩)
    obtain ⟨l1, l2⟩ := list_of f n
    exact ⟨_, l1, .inr ⟨x, rfl, fun i e he => by obtain ⟨hi, rfl⟩ := l2 i e he; exact hf i hi⟩⟩
end
end Go.Proofs.Qxb6616888a
