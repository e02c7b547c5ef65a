import Derived.Test.Qxb6618302aTotal
import Derived.Laws.CopyOwn
namespace Go.Proofs.Qxb6618302a
open Go.RowKit

theorem Try.info3 : (Try.prog.info? 3).map (fun i => (i.zero, i.size, i.bytes)) = some (some (.int .i64 0), 1, 8) := by kernel_rfl

/-- What the copy owes: the source's cells. -/
theorem src_cells {w w1 : World} {x : Addr} {len : Nat} {zs : List Int} (hl : len ≤ zs.length) (hg : w.grownBy w1 none)
    (hcell : ∀ k, k < zs.length → w.cell? (x.add k) = some (.int .i64 (zs.getD k 0))) :
    ∀ k v, ((zs.take len).map (Value.int .i64))[k]? = some v → w1.cell? (x.add k) = some v := by
  intro k v hv
  obtain ⟨h1, h2⟩ := List.getElem?_eq_some_iff.1 hv
  simp at h1 h2
  have h3 := hcell k (by omega)
  have h4 : k < zs.length := by omega
  simp [h4] at h3
  rw [← h2]
  exact hg.cell h3 (by simp)

theorem made_row {w w1 : World} {len : Nat} {xs : List Value} (h : w1.ownsRow w.heap.size 3 1 (.slice (some ⟨w.heap.size, 0, none⟩) len len) len xs) :
    ∃ cur : List Value, cur.length = len ∧ w1.heap[w.heap.size]? = some (.cells cur.toArray 3 (0, 0)) := by
  rcases h.2 with ⟨h1, _⟩ | ⟨g, cp, cur, h1, _, h2, _, _, h3, _⟩
  · cases h1
  · cases h1
    exact ⟨cur.toList, by simpa using h3, by simpa using h2⟩

theorem slice_of {w : World} {g len : Nat} {zs : List Int} (h : w.heap[g]? = some (.cells ((zs.take len).map (Value.int .i64)).toArray 3 (0, 0))) : SliceIs w (some ⟨g, 0, none⟩) (zs.take len) := by
  refine .inr ⟨_, rfl, fun k hk => ?_⟩
  have h1 : k < len ∧ k < zs.length := by rw [List.length_take] at hk; omega
  rw [Addr.add_lit, Nat.zero_add]
  simp [World.cell?, h, h1.1, h1.2]

/-- 'zzc := make([]int, len(reps)); copy(zzc, reps)': the copy's run. -/
theorem copy_run {w w1 : World} {x : Addr} {len cap : Nat} {zs : List Int} {cur : List Value} (hcur : cur.length = len) (hrow : w1.heap[w.heap.size]? = some (.cells cur.toArray 3 (0, 0)))
    (hl : len ≤ zs.length) (hg : w.grownBy w1 none) (hcell : ∀ k, k < zs.length → w.cell? (x.add k) = some (.int .i64 (zs.getD k 0))) :
    ∃ w2, (Builtin.copy_ #[22, 22] 3 #[.slice (some ⟨w.heap.size, 0, none⟩) len len, .slice (some x) len cap]).run Try.prog w1 = .ok (.int .i64 len) w2 ∧ SliceIs w2 (some ⟨w.heap.size, 0, none⟩) (zs.take len) ∧ Below w.heap.size w w2 := by
  obtain ⟨i0, hi0, hz0, hz1, hz2⟩ := info_parts Try.info3
  have hlen : ((zs.take len).map (Value.int .i64)).length = len := by simp; omega
  have hrun := run_copy_row (P := Try.prog) w1 22 22 3 3 w.heap.size 0 len len x len cap cur.toArray 3 ((zs.take len).map (Value.int .i64)) Try.underlying22 (by rw [hi0]; simp [hz1]) hrow (by rw [hlen]; simp)
    (src_cells hl hg hcell) (by rw [hlen]; simp; omega) (ints_oneCell .i64 _)
  rw [hlen] at hrun
  refine ⟨_, hrun, ?_, below_setRow ((Below.refl _ _).grown hg (Nat.le_refl _) (by intro k hk; cases hk)) (Nat.le_refl _) _⟩
  refine slice_of ?_
  rw [setRow_heap _ _ _ _ _ _ hrow]
  simp [hcur]

/-- From an owned row of numbers to a slice that reads as them. -/
theorem slice_own {w : World} {B g k cap : Nat} {l : List Int} (h : w.ownsRow B 3 1 (.slice (some ⟨g, 0, none⟩) k cap) k (l.map (Value.int .i64))) : SliceIs w (some ⟨g, 0, none⟩) l ∧ k = l.length := by
  have hk : k = l.length := by simpa using h.1.symm
  refine ⟨.inr ⟨_, rfl, fun j hj => ?_⟩, hk⟩
  have := h.cellAt j (by omega)
  rw [Addr.add_lit, Nat.zero_add, this]
  simp [hj]

theorem take_snoc (l : List Int) (c j : Nat) (h : c + j < l.length) : (l.drop c).take (j + 1) = (l.drop c).take j ++ [l.getD (c + j) 0] := by
  rw [List.take_succ_eq_append_getElem (by simp; omega)]
  simp [h]

theorem take_snoc0 (l : List Int) (j : Nat) (h : j < l.length) : l.take (j + 1) = l.take j ++ [l.getD j 0] := by
  rw [List.take_succ_eq_append_getElem h]
  simp [h]

end Go.Proofs.Qxb6618302a
