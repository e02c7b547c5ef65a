import Derived.Test.Qxb6616888aPol
namespace Go.Proofs.Qxb6616888a
open Go.RowKit Go.ChangeMaps

theorem PolAt.cellA {w : World} {p A R : Nat} (h : PolAt w p A R) : w.cell? ⟨p, 4, none⟩ = some (.map (some A)) := by
  obtain ⟨x, y, z, hb⟩ := h
  unfold World.cell?; rw [hb]; rfl
theorem PolAt.cellR {w : World} {p A R : Nat} (h : PolAt w p A R) : w.cell? ⟨p, 5, none⟩ = some (.map (some R)) := by
  obtain ⟨x, y, z, hb⟩ := h
  unfold World.cell?; rw [hb]; rfl

/-- The names' map, made and filled. -/
theorem ins_run (w : World) (c : Nat) : ∃ W1, (Instr.mapUpdate 52 (.map (some w.heap.size)) (rp c) (.bool true)).run Try.prog (w.alloc (.map #[] 0)) = .ok () W1 ∧ VMap W1 w.heap.size [(rp c, .bool true)] ∧ w.grownBy W1 none ∧ W1.heap.size = w.heap.size + 1 := by
  have h0 := (MapKept.heap_alloc w (.map #[] 0)).1
  refine ⟨_, run_insert_empty h0, ⟨_, _, heap_setBlock_same h0 _, ?_, rfl⟩, ?_, by simp [setBlock]⟩
  · exact MapKept.stamped_push (MapKept.stamped_empty 0) (by simp)
  · exact ⟨rfl, rfl, rfl, by simp [setBlock], fun k hk _ => (heap_setBlock_other h0 _ (by omega)).trans ((MapKept.heap_alloc w _).2 k hk)⟩

theorem made_run (w : World) : VMap (w.alloc (.map #[] 0)) w.heap.size [] ∧ w.grownBy (w.alloc (.map #[] 0)) none ∧ (w.alloc (.map #[] 0)).heap.size = w.heap.size + 1 :=
  ⟨VMap.made w, World.grownBy_alloc w _ none, by simp⟩

/-- The prerequisite is laid, and stored at its key. -/
theorem put_run {w W1 : World} {b B0 : Nat} {ρ : Nat → Nat} {E : List Ent} (h : PolMap w b B0 ρ E) (hr : Roles w ρ) (hE : ∀ x ∈ E, EntOk x) {e : Ent} (he : EntOk e) (hb : b < B0) (hB : B0 ≤ w.heap.size)
    (hm : VMap W1 w.heap.size (namesKV ρ e.2.2.2)) (hg : w.grownBy W1 none) (hs : W1.heap.size = w.heap.size + 1) :
    ∃ w', (Instr.mapUpdate 47 (.map (some b)) (keyE ρ e) (rp W1.heap.size)).run Try.prog (W1.alloc (.cells #[.nilFunc, .map (some w.heap.size)] 55)) = .ok () w' ∧ w.grownBy w' (some b) ∧ PolMap w' b B0 ρ (ins E e) := by
  have g2 := World.grownBy_alloc W1 (.cells #[.nilFunc, .map (some w.heap.size)] 55) none
  have hno : ∀ x, (none : Option Nat) = some x → x < B0 ∧ x ≠ b := fun x hx => by cases hx
  have hno2 : ∀ x, (none : Option Nat) = some x → ∀ j, j < 256 → ρ j ≠ x := fun x hx => by cases hx
  have hv : PreAt (W1.alloc (.cells #[.nilFunc, .map (some w.heap.size)] 55)) B0 ρ (rp W1.heap.size) e.2.2.2 :=
    ⟨_, _, rfl, by omega, hB, (MapKept.heap_alloc W1 _).1, hm.of_block (g2.block _ hm.lt (by simp))⟩
  obtain ⟨w', h1, h2, h3, h4⟩ := ((h.grown hg hno).grown g2 hno).put ((hr.grown hg hno2).grown g2 hno2) hE he hv hb
  have hbl := h.choose_spec.1.lt
  refine ⟨w', h1, ⟨h2.os.trans (g2.os.trans hg.os), h2.tape.trans (g2.tape.trans hg.tape), h2.output.trans (g2.output.trans hg.output), Nat.le_trans hg.size (Nat.le_trans g2.size h2.size), fun k hk hne => ?_⟩, h4⟩
  rw [h2.block k (by have := hg.size; have := g2.size; omega) hne, g2.block k (by have := hg.size; omega) (by simp), hg.block k hk (by simp)]

set_option maxRecDepth 100000 in
theorem putAssign_any (p A R B0 a l h c : Nat) (ρ : Nat → Nat) (E : List Ent) (s : ByteArray) (w : World) (hp : PolAt w p A R) (hm : PolMap w A B0 ρ E) (hr : Roles w ρ) (hE : ∀ x ∈ E, EntOk x)
    (he : EntOk (a, l, h, some c)) (hs : s = condS (some c)) (hA : A < B0) (hB : B0 ≤ w.heap.size) :
    Calls Try.prog 12 #[rp p, rp (ρ a), rp (ρ l), rp (ρ h), .string s, rp (ρ c)] w fun e w' => e = .returned (.tuple #[]) ∧ w.grownBy w' (some A) ∧ PolMap w' A B0 ρ (ins E (a, l, h, some c)) := by
  have hc := hp.cellA
  obtain ⟨W1, hins, hW1, hg1, hs1⟩ := ins_run w (ρ c)
  obtain ⟨w', hput, hg2, hm2⟩ := put_run hm hr hE he hA hB (e := (a, l, h, some c)) hW1 hg1 hs1
  have hput2 : (Instr.mapUpdate 47 (.map (some A)) (tup (ρ a) s (ρ l) (ρ h)) (rp W1.heap.size)).run Try.prog (W1.alloc (.cells #[.nilFunc, .map (some w.heap.size)] 55)) = .ok () w' := by rw [hs]; exact hput
  clear hput
  have HG := hide hg2
  have HM := hide hm2
  have hmm := @run_makeMap Try.prog
  clear hp hm hr hE he hs hW1 hg1 hg2 hm2 hs1
  go_enter Try.func12, Try.ntmps12
  go_wp2
  go_end0
  exact ⟨rfl, HG.out, HM.out⟩

set_option maxRecDepth 100000 in
theorem putRevoke_any (p A R B0 a l h : Nat) (ρ : Nat → Nat) (E : List Ent) (w : World) (hp : PolAt w p A R) (hm : PolMap w R B0 ρ E) (hr : Roles w ρ) (hE : ∀ x ∈ E, EntOk x)
    (he : EntOk (a, l, h, none)) (hA : R < B0) (hB : B0 ≤ w.heap.size) :
    Calls Try.prog 13 #[rp p, rp (ρ a), rp (ρ l), rp (ρ h)] w fun e w' => e = .returned (.tuple #[]) ∧ w.grownBy w' (some R) ∧ PolMap w' R B0 ρ (ins E (a, l, h, none)) := by
  have hc := hp.cellR
  obtain ⟨hW1, hg1, hs1⟩ := made_run w
  obtain ⟨w', hput, hg2, hm2⟩ := put_run hm hr hE he hA hB (e := (a, l, h, none)) hW1 hg1 hs1
  have hput2 : (Instr.mapUpdate 47 (.map (some R)) (tup (ρ a) ⟨#[116, 114, 117, 101]⟩ (ρ l) (ρ h)) (rp (w.heap.size + 1))).run Try.prog ((w.alloc (.map #[] 0)).alloc (.cells #[.nilFunc, .map (some w.heap.size)] 55)) = .ok () w' := by
    rw [← hs1]; exact hput
  clear hput
  have HG := hide hg2
  have HM := hide hm2
  have hmm := @run_makeMap Try.prog
  clear hp hm hr hE he hW1 hg1 hg2 hm2 hs1
  go_enter Try.func13, Try.ntmps13
  go_wp2
  go_end0
  exact ⟨rfl, HG.out, HM.out⟩
end Go.Proofs.Qxb6616888a
