namespace Go.Proofs.Qxb6618302a

/-! No Go in sight. -/
/-- The sum. -/
def tot : List Int → Int
  | [] => 0
  | d :: r => d + tot r

/-- Counting down from the minimum. -/
def passB : Int → List Int → Bool
  | _, [] => false
  | m, d :: r => decide (m ≤ d) || passB (m - d) r

def NonNeg (l : List Int) : Prop := ∀ d ∈ l, 0 ≤ d

theorem tot_nonneg : ∀ {l : List Int}, NonNeg l → 0 ≤ tot l
  | [], _ => by simp [tot]
  | d :: r, h => by
    have h1 := h d (by simp)
    have h2 := tot_nonneg (l := r) (fun x hx => h x (by simp [hx]))
    simp only [tot]
    omega

theorem tot_append : ∀ (a b : List Int), tot (a ++ b) = tot a + tot b
  | [], b => by simp [tot]
  | d :: r, b => by simp only [List.cons_append, tot, tot_append r b]; omega

theorem passB_iff : ∀ (l : List Int) (m : Int), NonNeg l → (passB m l = true ↔ (l ≠ [] ∧ m ≤ tot l))
  | [], m, _ => by simp [passB]
  | d :: r, m, h => by
    have h1 := h d (by simp)
    have hr : NonNeg r := fun x hx => h x (by simp [hx])
    have h2 := tot_nonneg hr
    have ih := passB_iff r (m - d) hr
    simp only [passB, tot, Bool.or_eq_true, decide_eq_true_eq, ih]
    constructor
    · rintro (h3 | ⟨_, h4⟩)
      · exact ⟨by simp, by omega⟩
      · exact ⟨by simp, by omega⟩
    · rintro ⟨_, h3⟩
      by_cases hd : m ≤ d
      · exact .inl hd
      · refine .inr ⟨fun e => ?_, by omega⟩
        subst e
        simp only [tot] at h3
        omega

/-- The step of counting down. -/
theorem passB_drop (l : List Int) (k : Nat) (m : Int) (h : k < l.length) : passB m (l.drop k) = (decide (m ≤ l.getD k 0) || passB (m - l.getD k 0) (l.drop (k + 1))) := by
  rw [List.drop_eq_getElem_cons h]
  simp [passB, h]

theorem tot_take (l : List Int) (k : Nat) (h : k < l.length) : tot (l.take (k + 1)) = tot (l.take k) + l.getD k 0 := by
  rw [List.take_succ_eq_append_getElem h, tot_append]
  simp [tot, h]

theorem nonneg_append {a b : List Int} (ha : NonNeg a) (hb : NonNeg b) : NonNeg (a ++ b) := fun d hd => by
  rcases List.mem_append.1 hd with h | h
  · exact ha d h
  · exact hb d h

theorem tot_split (l : List Int) (k : Nat) : tot (l.take k) + tot (l.drop k) = tot l := by
  rw [← tot_append, List.take_append_drop]

theorem nonneg_of {l : List Int} (h : ∀ k, k < l.length → 0 ≤ l.getD k 0) : NonNeg l := fun d hd => by
  obtain ⟨k, hk, rfl⟩ := List.getElem_of_mem hd
  have := h k hk
  simpa [hk] using this

theorem nonneg_take {l : List Int} (h : NonNeg l) (k : Nat) : NonNeg (l.take k) := fun d hd => h d (List.mem_of_mem_take hd)
theorem nonneg_drop {l : List Int} (h : NonNeg l) (k : Nat) : NonNeg (l.drop k) := fun d hd => h d (List.mem_of_mem_drop hd)

/-- The rotated list passes just where the list does. -/
theorem pass_rot (l : List Int) (c : Nat) (m : Int) (h : NonNeg l) : passB m (l.drop c ++ l.take c) = passB m l := by
  rw [Bool.eq_iff_iff, passB_iff _ _ (nonneg_append (nonneg_drop h c) (nonneg_take h c)), passB_iff _ _ h, tot_append]
  have := tot_split l c
  constructor
  · rintro ⟨h1, h2⟩
    exact ⟨fun e => h1 (by simp [e]), by omega⟩
  · rintro ⟨h1, h2⟩
    refine ⟨fun e => h1 ?_, by omega⟩
    obtain ⟨e1, e2⟩ := List.append_eq_nil_iff.1 e
    rw [← List.take_append_drop c l, e1, e2]
    rfl

theorem pass_want (l : List Int) (m : Int) (h : NonNeg l) : passB m l = (decide (0 < l.length) && decide (m ≤ 0 + tot l)) := by
  rw [Bool.eq_iff_iff, passB_iff _ _ h]
  simp
  intro _
  cases l <;> simp

/-- One more set, put in anywhere. -/
theorem pass_more (l : List Int) (c : Nat) (m x : Int) (h : NonNeg l) (hx : 0 ≤ x) : passB m (l.take c ++ [x] ++ l.drop c) = decide (m ≤ x + tot l) := by
  have hn : NonNeg (l.take c ++ [x] ++ l.drop c) := nonneg_append (nonneg_append (nonneg_take h c) (by intro d hd; simp at hd; omega)) (nonneg_drop h c)
  rw [Bool.eq_iff_iff, passB_iff _ _ hn, tot_append, tot_append, decide_eq_true_eq]
  have := tot_split l c
  have h1 : tot [x] = x := by simp [tot]
  constructor
  · rintro ⟨_, h2⟩; omega
  · intro h2; exact ⟨by simp, by omega⟩

theorem pass_lower (l : List Int) (m x : Int) (h : NonNeg l) (hl : l ≠ []) : passB (m - x) l = decide (m ≤ x + tot l) := by
  rw [Bool.eq_iff_iff, passB_iff _ _ h, decide_eq_true_eq]
  constructor
  · rintro ⟨_, h2⟩; omega
  · intro h2; exact ⟨hl, by omega⟩

/-! Two words of 64 bits. -/
def two64 : Int := 18446744073709551616
/-- hi and lo hold s. -/
def Word2 (hi lo s : Int) : Prop := hi * two64 + lo = s ∧ 0 ≤ lo ∧ lo < two64 ∧ 0 ≤ hi

theorem Word2.plain {hi lo s x : Int} (h : Word2 hi lo s) (hx : 0 ≤ x) (hs : lo + x < two64) : Word2 hi (lo + x) (s + x) := by
  unfold Word2 at *; omega
theorem Word2.carry {hi lo s x : Int} (h : Word2 hi lo s) (hx : x < two64) (hs : ¬ lo + x < two64) : Word2 (hi + 1) (lo + x - two64) (s + x) := by
  unfold Word2 two64 at *; omega
theorem Word2.big {hi lo s m : Int} (h : Word2 hi lo s) (hh : 0 < hi) (hm : m ≤ 9223372036854775807) : decide (m ≤ s) = true := by
  rw [decide_eq_true_eq]; unfold Word2 two64 at *; omega
theorem Word2.small {hi lo s : Int} (h : Word2 hi lo s) (hh : ¬ 0 < hi) : s = lo := by
  unfold Word2 two64 at *; omega

end Go.Proofs.Qxb6618302a
