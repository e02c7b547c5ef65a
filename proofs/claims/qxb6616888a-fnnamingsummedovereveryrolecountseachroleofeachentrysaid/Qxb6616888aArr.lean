import Derived.Test.Qxb6616888aKeys
import Derived.ChangeKeysEq
namespace Go.Proofs.Qxb6616888a
open Go.RowKit Go.MapKept Go.ChangeMaps

theorem Try.cells5 : Try.prog.cellsOf 5 = 1 := by kernel_rfl
theorem Try.info5 : (Try.prog.info? 5).map (fun i => i.size) = some 1 := by kernel_rfl

theorem eq_arr4 (w : World) (a b c d a' b' c' d' : Int) : (Op.equal 30 (arr4 a b c d) (arr4 a' b' c' d')).run Try.prog w = .ok ((a == a') && (b == b') && (c == c') && (d == d')) w := by
  have e1 : Op.equal 30 (arr4 a b c d) (arr4 a' b' c' d') = Op.equalIn (9999 + 1) 30 (arr4 a b c d) (arr4 a' b' c' d') := rfl
  obtain ⟨i, hi, _⟩ := Option.map_eq_some_iff.1 Try.info5
  have q : ∀ x y : Int, (Op.equalIn 9999 5 (.int .u8 x) (.int .u8 y)).run Try.prog w = .ok (x == y) w := fun x y => run_equalIn_int w 9998 5 .u8 .u8 x y Try.underlying5
  have p0 : ∀ x y z u : Value, (part 5 #[x, y, z, u] 0).run Try.prog w = .ok x w := fun _ _ _ _ => by kernel_rfl
  have p1 : ∀ x y z u : Value, (part 5 #[x, y, z, u] 1).run Try.prog w = .ok y w := fun _ _ _ _ => by kernel_rfl
  have p2 : ∀ x y z u : Value, (part 5 #[x, y, z, u] 2).run Try.prog w = .ok z w := fun _ _ _ _ => by kernel_rfl
  have p3 : ∀ x y z u : Value, (part 5 #[x, y, z, u] 3).run Try.prog w = .ok u w := fun _ _ _ _ => by kernel_rfl
  have hr : List.range 4 = [0, 1, 2, 3] := rfl
  rw [e1, run_equalIn_array w 9999 _ _ Try.underlying30 hi, hr, Try.cells5]
  have q0 := q a a'
  have q1 := q b b'
  have q2 := q c c'
  have q3 := q d d'
  clear q
  generalize (a == a') = y0 at q0 ⊢
  generalize (b == b') = y1 at q1 ⊢
  generalize (c == c') = y2 at q2 ⊢
  generalize (d == d') = y3 at q3 ⊢
  cases y0
  · simp [Op.eqItems, p0, q0]
  · cases y1
    · simp [Op.eqItems, p0, p1, q0, q1]
    · cases y2
      · simp [Op.eqItems, p0, p1, p2, q0, q1, q2]
      · cases y3
        · simp [Op.eqItems, p0, p1, p2, p3, q0, q1, q2, q3]
        · simp [Op.eqItems, p0, p1, p2, p3, q0, q1, q2, q3]

theorem eq_arr3 (w : World) (a b c a' b' c' : Int) : (Op.equal 33 (arr3 a b c) (arr3 a' b' c')).run Try.prog w = .ok ((a == a') && (b == b') && (c == c')) w := by
  have e1 : Op.equal 33 (arr3 a b c) (arr3 a' b' c') = Op.equalIn (9999 + 1) 33 (arr3 a b c) (arr3 a' b' c') := rfl
  obtain ⟨i, hi, _⟩ := Option.map_eq_some_iff.1 Try.info5
  have q : ∀ x y : Int, (Op.equalIn 9999 5 (.int .u8 x) (.int .u8 y)).run Try.prog w = .ok (x == y) w := fun x y => run_equalIn_int w 9998 5 .u8 .u8 x y Try.underlying5
  have p0 : ∀ x y z : Value, (part 5 #[x, y, z] 0).run Try.prog w = .ok x w := fun _ _ _ => by kernel_rfl
  have p1 : ∀ x y z : Value, (part 5 #[x, y, z] 1).run Try.prog w = .ok y w := fun _ _ _ => by kernel_rfl
  have p2 : ∀ x y z : Value, (part 5 #[x, y, z] 2).run Try.prog w = .ok z w := fun _ _ _ => by kernel_rfl
  have hr : List.range 3 = [0, 1, 2] := rfl
  rw [e1, run_equalIn_array w 9999 _ _ Try.underlying33 hi, hr, Try.cells5]
  have q0 := q a a'
  have q1 := q b b'
  have q2 := q c c'
  clear q
  generalize (a == a') = y0 at q0 ⊢
  generalize (b == b') = y1 at q1 ⊢
  generalize (c == c') = y2 at q2 ⊢
  cases y0
  · simp [Op.eqItems, p0, q0]
  · cases y1
    · simp [Op.eqItems, p0, p1, q0, q1]
    · cases y2
      · simp [Op.eqItems, p0, p1, p2, q0, q1, q2]
      · simp [Op.eqItems, p0, p1, p2, q0, q1, q2]

theorem key4 (w : World) : KeyV Try.prog 30 w K4 := by
  refine KeyV.mk' Try.underlying30 ?_ ?_ ?_ ?_
  · rintro x y ⟨a, b, c, d, rfl⟩ ⟨a', b', c', d', rfl⟩; rfl
  · rintro em v ⟨a, b, c, d, rfl⟩; kernel_rfl
  · rintro x y ⟨a, b, c, d, rfl⟩ ⟨a', b', c', d', rfl⟩
    rw [eq_arr4]
    cases e : ((a == a') && (b == b') && (c == c') && (d == d'))
    · refine .inr ⟨rfl, fun h => ?_⟩
      simp at h
      simp [h] at e
    · simp at e
      obtain ⟨⟨⟨rfl, rfl⟩, rfl⟩, rfl⟩ := e
      exact .inl ⟨rfl, rfl⟩
  · rintro v ⟨a, b, c, d, rfl⟩; simp [Instr.sameBits]

theorem key3 (w : World) : KeyV Try.prog 33 w K3 := by
  refine KeyV.mk' Try.underlying33 ?_ ?_ ?_ ?_
  · rintro x y ⟨a, b, c, rfl⟩ ⟨a', b', c', rfl⟩; rfl
  · rintro em v ⟨a, b, c, rfl⟩; kernel_rfl
  · rintro x y ⟨a, b, c, rfl⟩ ⟨a', b', c', rfl⟩
    rw [eq_arr3]
    cases e : ((a == a') && (b == b') && (c == c'))
    · refine .inr ⟨rfl, fun h => ?_⟩
      simp at h
      simp [h] at e
    · simp at e
      obtain ⟨⟨rfl, rfl⟩, rfl⟩ := e
      exact .inl ⟨rfl, rfl⟩
  · rintro v ⟨a, b, c, rfl⟩; simp [Instr.sameBits]
end Go.Proofs.Qxb6616888a
