import Derived.Test.Qxb6616888aMaps
namespace Go.Proofs.Qxb6616888a
open Go.RowKit Go.MapKept Go.ChangeMaps

/-- Block B holds a role. -/
def IsRole (w : World) (B : Nat) : Prop := ∃ c, w.heap[B]? = some (.cells c 64 (0, 0))
abbrev rp (A : Nat) : Value := .pointer (some ⟨A, 0, none⟩)
abbrev tup (a : Nat) (s : ByteArray) (l h : Nat) : Value := .agg #[.pointer (some ⟨a, 0, none⟩), .string s, .pointer (some ⟨l, 0, none⟩), .pointer (some ⟨h, 0, none⟩), .bool false, .bool false]

theorem Try.info64 : (Try.prog.info? 64).map (fun i => i.size) = some 8 := by kernel_rfl

section
variable {w : World} {A B : Nat}

theorem eq_ptr (d : Nat) (hA : IsRole w A) (hB : IsRole w B) : (Op.equalIn (d + 1) 35 (rp A) (rp B)).run Try.prog w = .ok (decide (A = B)) w := by
  obtain ⟨j, hj, hs⟩ := Option.map_eq_some_iff.1 Try.info64
  obtain ⟨ca, ha⟩ := hA
  obtain ⟨cb, hb⟩ := hB
  by_cases h : A = B
  · subst h
    rw [decide_eq_true rfl]
    simp [Op.equalIn, run_underlying Try.underlying35, sizeOf, typeInfo, hj, run_sameAddr_same]
  · rw [decide_eq_false h]
    have hne : (⟨A, 0, none⟩ : Addr) ≠ ⟨B, 0, none⟩ := fun e => h (by cases e; rfl)
    simp [Op.equalIn, run_underlying Try.underlying35, sizeOf, typeInfo, hj, hs, run_sameAddr_other w hne ha hb]

theorem binop_ptr (hA : IsRole w A) (hB : IsRole w B) : (binOp .eql 35 (rp A) (rp B)).run Try.prog w = .ok (.bool (decide (A = B))) w := by
  simp only [binOp]
  simp [Op.equal, Op.maxDepth, eq_ptr 9999 hA hB]

/-- Keys that are roles. -/
def KP (w : World) (v : Value) : Prop := ∃ A, v = rp A ∧ IsRole w A

theorem keyP (w : World) : KeyV Try.prog 35 w (KP w) := by
  refine KeyV.mk' Try.underlying35 ?_ ?_ ?_ ?_
  · rintro x y ⟨A, rfl, _⟩ ⟨B, rfl, _⟩; rfl
  · rintro em v ⟨A, rfl, _⟩; kernel_rfl
  · rintro x y ⟨A, rfl, hA⟩ ⟨B, rfl, hB⟩
    have e1 : Op.equal 35 (rp A) (rp B) = Op.equalIn (9999 + 1) 35 (rp A) (rp B) := rfl
    rw [e1, eq_ptr 9999 hA hB]
    by_cases h : A = B
    · exact .inl ⟨by rw [decide_eq_true h], by rw [h]⟩
    · exact .inr ⟨by rw [decide_eq_false h], fun e => h (by cases e; rfl)⟩
  · rintro v ⟨A, rfl, _⟩; simp [Instr.sameBits]
end

theorem fields59 : Try.prog.underlying 59 = some (.struct (Try.prog.fieldsOf 59)) := by kernel_rfl
theorem fields57 : Try.prog.underlying 57 = some (.struct (Try.prog.fieldsOf 57)) := by kernel_rfl

section
variable {w : World} {a l h a' l' h' : Nat} {s s' : ByteArray}

theorem eq_range (d : Nat) (hl : IsRole w l) (hh : IsRole w h) (hl' : IsRole w l') (hh' : IsRole w h') :
    (Op.equalIn (d + 2) 57 (.agg #[rp l, rp h, .bool false, .bool false]) (.agg #[rp l', rp h', .bool false, .bool false])).run Try.prog w = .ok (decide (l = l') && decide (h = h')) w := by
  rw [run_equalIn_struct w (d + 1) 57 _ _ fields57 (by kernel_rfl)]
  have p0 : ∀ (x y : Value), (part 35 #[x, y, .bool false, .bool false] 0).run Try.prog w = .ok x w := fun _ _ => by kernel_rfl
  have p1 : ∀ (x y : Value), (part 35 #[x, y, .bool false, .bool false] 1).run Try.prog w = .ok y w := fun _ _ => by kernel_rfl
  have p2 : ∀ (x y : Value), (part 4 #[x, y, .bool false, .bool false] 2).run Try.prog w = .ok (.bool false) w := fun _ _ => by kernel_rfl
  have p3 : ∀ (x y : Value), (part 4 #[x, y, .bool false, .bool false] 3).run Try.prog w = .ok (.bool false) w := fun _ _ => by kernel_rfl
  simp only [Program.fieldsOf, Try.underlying57]
  have q1 := eq_ptr d hl hl'
  have q2 := eq_ptr d hh hh'
  have q3 := run_equalIn_bool' w d 4 false false Try.underlying4
  by_cases h1 : l = l'
  · rw [decide_eq_true h1] at q1 ⊢
    by_cases h2 : h = h'
    · rw [decide_eq_true h2] at q2 ⊢
      clear h1 h2
      simp [Op.eqFields, p0, p1, p2, p3, q1, q2, q3]
    · rw [decide_eq_false h2] at q2 ⊢
      clear h1 h2
      simp [Op.eqFields, p0, p1, q1, q2]
  · rw [decide_eq_false h1] at q1 ⊢
    clear h1
    simp [Op.eqFields, p0, q1]

theorem eq_tup (ha : IsRole w a) (hl : IsRole w l) (hh : IsRole w h) (ha' : IsRole w a') (hl' : IsRole w l') (hh' : IsRole w h') :
    (Op.equal 59 (tup a s l h) (tup a' s' l' h')).run Try.prog w = .ok (decide (a = a') && decide (s.toList = s'.toList) && (decide (l = l') && decide (h = h'))) w := by
  have e1 : Op.equal 59 (tup a s l h) (tup a' s' l' h') = Op.equalIn (9999 + 1) 59 (tup a s l h) (tup a' s' l' h') := rfl
  rw [e1, run_equalIn_struct w 9999 59 _ _ fields59 (by kernel_rfl)]
  have p0 : ∀ (x y z : Value) (s : Value), (part 35 #[x, s, y, z, .bool false, .bool false] 0).run Try.prog w = .ok x w := fun _ _ _ _ => by kernel_rfl
  have p1 : ∀ (x y z : Value) (s : Value), (part 9 #[x, s, y, z, .bool false, .bool false] 1).run Try.prog w = .ok s w := fun _ _ _ _ => by kernel_rfl
  have p2 : ∀ (x y z : Value) (s : Value), (part 57 #[x, s, y, z, .bool false, .bool false] 2).run Try.prog w = .ok (.agg #[y, z, .bool false, .bool false]) w := fun _ _ _ _ => by kernel_rfl
  simp only [Program.fieldsOf, Try.underlying59]
  have q1 := eq_ptr 9998 ha ha'
  have q2 := run_equalIn_string w 9998 9 s s' Try.underlying9
  have q3 := eq_range 9997 hl hh hl' hh'
  have hb : (s.toList == s'.toList) = decide (s.toList = s'.toList) := by
    by_cases h2 : s.toList = s'.toList
    · rw [decide_eq_true h2]; simpa using h2
    · rw [decide_eq_false h2]; simpa using h2
  rw [hb] at q2
  generalize (decide (l = l') && decide (h = h')) = y3 at q3 ⊢
  generalize decide (s.toList = s'.toList) = y2 at q2 ⊢
  generalize decide (a = a') = y1 at q1 ⊢
  cases y1
  · simp [Op.eqFields, p0, q1]
  · cases y2
    · simp [Op.eqFields, p0, p1, q1, q2]
    · cases y3
      · simp [Op.eqFields, p0, p1, p2, q1, q2, q3]
      · simp [Op.eqFields, p0, p1, p2, q1, q2, q3]
end

/-- Keys of can_assign and can_revoke. -/
def KT (w : World) (v : Value) : Prop := ∃ a s l h, v = tup a s l h ∧ IsRole w a ∧ IsRole w l ∧ IsRole w h

theorem tup_inj {a l h a' l' h' : Nat} {s s' : ByteArray} (e : tup a s l h = tup a' s' l' h') : a = a' ∧ s = s' ∧ l = l' ∧ h = h' := by
  simp at e
  exact e

theorem keyT (w : World) : KeyV Try.prog 59 w (KT w) := by
  refine KeyV.mk' Try.underlying59 ?_ ?_ ?_ ?_
  · rintro x y ⟨a, s, l, h, rfl, _⟩ ⟨a', s', l', h', rfl, _⟩; rfl
  · rintro em v ⟨a, s, l, h, rfl, _⟩; kernel_rfl
  · rintro x y ⟨a, s, l, h, rfl, ha, hl, hh⟩ ⟨a', s', l', h', rfl, ha', hl', hh'⟩
    rw [eq_tup ha hl hh ha' hl' hh']
    by_cases e : (decide (a = a') && decide (s.toList = s'.toList) && (decide (l = l') && decide (h = h'))) = true
    · rw [e]
      simp only [Bool.and_eq_true, decide_eq_true_eq] at e
      obtain ⟨⟨rfl, e2⟩, rfl, rfl⟩ := e
      rw [ByteArray.toList_eq, ByteArray.toList_eq] at e2
      rw [WideShapes.bytes_inj e2]
      exact .inl ⟨rfl, rfl⟩
    · have e' : (decide (a = a') && decide (s.toList = s'.toList) && (decide (l = l') && decide (h = h'))) = false := by simpa using e
      rw [e']
      refine .inr ⟨rfl, fun e2 => e ?_⟩
      obtain ⟨rfl, rfl, rfl, rfl⟩ := tup_inj e2
      simp
  · rintro v ⟨a, s, l, h, rfl, _⟩; simp [Instr.sameBits, beq_toListBytes]

/-- Keys that are arrays of bytes. -/
abbrev arr4 (a b c d : Int) : Value := .agg #[.int .u8 a, .int .u8 b, .int .u8 c, .int .u8 d]
abbrev arr3 (a b c : Int) : Value := .agg #[.int .u8 a, .int .u8 b, .int .u8 c]
def K4 (v : Value) : Prop := ∃ a b c d, v = arr4 a b c d
def K3 (v : Value) : Prop := ∃ a b c, v = arr3 a b c

end Go.Proofs.Qxb6616888a
