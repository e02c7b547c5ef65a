import Derived.Test.Qxb6616888aItoa
namespace Go.Proofs.Qxb6616888a
open Go.RowKit Go.ChangeMaps

theorem run_insert_empty {W : World} {b c : Nat} (hb : W.heap[b]? = some (.map #[] 0)) :
    (Instr.mapUpdate 52 (.map (some b)) (rp c) (.bool true)).run Try.prog W = .ok () (setBlock W b (.map #[⟨rp c, .bool true, 0⟩] 1)) := by
  have hck : (Instr.checkKey false 10000 35 (rp c)).run Try.prog W = .ok () W := by kernel_rfl
  have hfk : (Instr.findKey 35 (rp c) []).run Try.prog W = .ok none W := by kernel_rfl
  simp [Instr.mapUpdate, run_underlying Try.underlying52, MapKept.run_getObj_map hb, hck, hfk, MapKept.run_setObj_map _ hb, Result.andThen, setBlock]

theorem heap_alloc_if (w : World) (o : Obj) (k : Nat) : (w.alloc o).heap[k]? = if k = w.heap.size then some o else w.heap[k]? := by
  show (w.heap.push o)[k]? = _
  rw [Array.getElem?_push]

theorem heap_setBlock_if (w : World) (b : Nat) (o : Obj) (k : Nat) (hb : b < w.heap.size) : (setBlock w b o).heap[k]? = if k = b then some o else w.heap[k]? := by
  show (w.heap.setIfInBounds b o)[k]? = _
  rw [Array.getElem?_setIfInBounds]
  by_cases h : b = k
  · subst h; simp [hb]
  · simp [h, Ne.symm h]

theorem below_setBlock {B b : Nat} {a w : World} (h : Below B a w) (hb : B ≤ b) (o : Obj) : Below B a (setBlock w b o) :=
  h.trans ⟨rfl, rfl, rfl, by simp [setBlock], fun k hk => by
    show (w.heap.setIfInBounds b o)[k]? = _
    rw [Array.getElem?_setIfInBounds, if_neg (by omega)]⟩

set_option maxRecDepth 100000 in
theorem newRole_any (name : ByteArray) (w : World) :
    Calls Try.prog 15 #[.string name] w fun e w' => ∃ R, e = .returned (rp R) ∧ w.heap.size ≤ R ∧ IsRole w' R ∧ Below w.heap.size w w' := by
  have hmm := @run_makeMap Try.prog
  go_enter Try.func15, Try.ntmps15
  go_wp2
  rw [run_insert_empty (by
    simp only [heap_alloc_if, World.size_alloc]
    repeat (first | rw [if_pos trivial] | rw [if_pos (by omega)] | rw [if_neg (by omega)]))]
  go_wp2
  go_ret
  refine ⟨w.heap.size + 1 + 1 + 1 + 1 + 1 + 1, rfl, by omega, ?_, ?_⟩
  · unfold IsRole
    rw [heap_setBlock_if _ _ _ _ (by simp only [World.size_alloc]; omega), if_neg (by omega), heap_alloc_if, if_pos (by simp only [World.size_alloc])]
    exact ⟨_, rfl⟩
  · refine below_setBlock ?_ (by omega) _
    repeat (refine Below.alloc ?_ (by first | omega | (simp only [World.size_alloc]; omega)) _)
    exact Below.refl _ _

theorem zznewRole_any (name : ByteArray) (w : World) :
    Calls Try.prog 9 #[.string name] w fun e w' => ∃ R, e = .returned (rp R) ∧ w.heap.size ≤ R ∧ IsRole w' R ∧ Below w.heap.size w w' := by
  go_enter Try.func9, Try.ntmps9
  go_wp2_with (go_at_call 15; refine (newRole_any name w).mono ?_; rintro e w' ⟨R, rfl, h1, h2, h3⟩)
  go_ret
  exact ⟨R, rfl, h1, h2, h3⟩
end Go.Proofs.Qxb6616888a
