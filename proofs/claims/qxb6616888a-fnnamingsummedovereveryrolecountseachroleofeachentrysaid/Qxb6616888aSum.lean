import Derived.Test.Qxb6616888aBuild
namespace Go.Proofs.Qxb6616888a

/-! No Go in sight: each once, and the double count. -/
section
variable {α β : Type} [DecidableEq α] [DecidableEq β]
def insG (E : List α) (e : α) : List α := if e ∈ E then E else E ++ [e]
def ddup (l : List α) : List α := l.foldl insG []
theorem ddup_snoc (l : List α) (e : α) : ddup (l ++ [e]) = insG (ddup l) e := by simp [ddup, List.foldl_append]
theorem insG_len (E : List α) (e : α) : (insG E e).length ≤ E.length + 1 := by
  unfold insG
  split <;> simp
theorem foldl_insG_len : ∀ (l E : List α), (l.foldl insG E).length ≤ E.length + l.length
  | [], _ => by simp
  | e :: r, E => by
    have h1 := foldl_insG_len r (insG E e)
    have h2 := insG_len E e
    simp only [List.foldl_cons, List.length_cons]
    omega
theorem ddup_len (l : List α) : (ddup l).length ≤ l.length := by
  have := foldl_insG_len l []
  simpa [ddup] using this
theorem map_insG (f : α → β) (hf : ∀ a b, f a = f b → a = b) (E : List α) (e : α) : (insG E e).map f = insG (E.map f) (f e) := by
  unfold insG
  by_cases h : e ∈ E
  · rw [if_pos h, if_pos (List.mem_map.2 ⟨e, h, rfl⟩)]
  · rw [if_neg h, if_neg (fun hm => by
      obtain ⟨x, hx, he⟩ := List.mem_map.1 hm
      exact h (hf x e he ▸ hx)), List.map_append]
    rfl
theorem map_foldl_insG (f : α → β) (hf : ∀ a b, f a = f b → a = b) : ∀ (l E : List α), (l.foldl insG E).map f = (l.map f).foldl insG (E.map f)
  | [], _ => rfl
  | e :: r, E => by
    simp only [List.foldl_cons, List.map_cons]
    rw [map_foldl_insG f hf r (insG E e), map_insG f hf]
theorem map_ddup (f : α → β) (hf : ∀ a b, f a = f b → a = b) (l : List α) : (ddup l).map f = ddup (l.map f) := map_foldl_insG f hf l []
end

theorem ins_eq : ins = (insG : List Ent → Ent → List Ent) := by
  funext E e
  unfold ins insG
  by_cases h : e ∈ E
  · simp [h]
  · simp [h]
theorem insAll_eq (l : List Ent) : insAll l = ddup l := by
  unfold insAll ddup
  rw [ins_eq]
theorem ent4_inj : ∀ a b : E4, ent4 a = ent4 b → a = b := by
  rintro ⟨a, b, c, d⟩ ⟨a', b', c', d'⟩ h
  simp [ent4] at h
  simp [h]
theorem ent3_inj : ∀ a b : E3, ent3 a = ent3 b → a = b := by
  rintro ⟨a, b, c⟩ ⟨a', b', c'⟩ h
  simp [ent3] at h
  simp [h]

/-- How many t below N are named. -/
def cN (N : Nat) (e : Ent) : Nat := (List.range N).countP (fun t => named t e)
def esum (N : Nat) : List Ent → Nat
  | [] => 0
  | e :: r => cN N e + esum N r
/-- The sum over the roles. -/
def tsum (E F : List Ent) : Nat → Nat
  | 0 => 0
  | t + 1 => tsum E F t + (E.countP (named t) + F.countP (named t))

theorem cN_succ (N : Nat) (e : Ent) : cN (N + 1) e = cN N e + if named N e = true then 1 else 0 := by
  unfold cN
  rw [List.range_succ, List.countP_append, List.countP_singleton]
theorem esum_zero : ∀ E : List Ent, esum 0 E = 0
  | [] => rfl
  | e :: r => by simp [esum, cN, esum_zero r]
theorem esum_succ (N : Nat) : ∀ E : List Ent, esum (N + 1) E = esum N E + E.countP (named N)
  | [] => rfl
  | e :: r => by
    rw [esum, esum, esum_succ N r, cN_succ, List.countP_cons]
    split <;> omega
theorem tsum_eq (E F : List Ent) : ∀ N, tsum E F N = esum N E + esum N F
  | 0 => by simp [tsum, esum_zero]
  | N + 1 => by rw [tsum, tsum_eq E F N, esum_succ, esum_succ]; omega

theorem count_add (P : Nat → Bool) (x : Nat) : ∀ N, x < N → (List.range N).countP (fun t => P t || x == t) = (List.range N).countP P + if P x = true then 0 else 1
  | 0, h => by omega
  | N + 1, h => by
    rw [List.range_succ, List.countP_append, List.countP_append, List.countP_singleton, List.countP_singleton]
    by_cases e : x = N
    · subst e
      have h1 : (List.range x).countP (fun t => P t || x == t) = (List.range x).countP P := by
        apply List.countP_congr
        intro t ht
        have : (x == t) = false := by have := List.mem_range.1 ht; simp; omega
        rw [this, Bool.or_false]
      rw [h1]
      cases hP : P x <;> simp
    · rw [count_add P x N (by omega)]
      have : (x == N) = false := by simpa using e
      rw [this, Bool.or_false]
      omega

theorem cN_ent4 (a l h c : Nat) (h1 : a < 256) (h2 : l < 256) (h3 : h < 256) (h4 : c < 256) : cN 256 (a, l, h, some c) = dcount [a, l, h, c] 4 := by
  have e0 : cN 256 (a, l, h, some c) = (List.range 256).countP (fun t => ((((fun _ => false) t || a == t) || l == t) || h == t) || c == t) := by
    unfold cN
    apply List.countP_congr
    intro t _
    simp [named]
  rw [e0, count_add (fun t => ((((fun _ => false) t || a == t) || l == t) || h == t)) c 256 h4, count_add (fun t => (((fun _ => false) t || a == t) || l == t)) h 256 h3,
    count_add (fun t => ((fun _ => false) t || a == t)) l 256 h2, count_add (fun _ => false) a 256 h1]
  have e1 : (List.range 256).countP (fun _ => false) = 0 := by rw [List.countP_eq_zero]; simp
  rw [e1]
  simp [dcount, dupAt]

theorem cN_ent3 (a l h : Nat) (h1 : a < 256) (h2 : l < 256) (h3 : h < 256) : cN 256 (a, l, h, none) = dcount [a, l, h, 0] 3 := by
  have e0 : cN 256 (a, l, h, none) = (List.range 256).countP (fun t => (((fun _ => false) t || a == t) || l == t) || h == t) := by
    unfold cN
    apply List.countP_congr
    intro t _
    simp [named]
  rw [e0, count_add (fun t => (((fun _ => false) t || a == t) || l == t)) h 256 h3,
    count_add (fun t => ((fun _ => false) t || a == t)) l 256 h2, count_add (fun _ => false) a 256 h1]
  have e1 : (List.range 256).countP (fun _ => false) = 0 := by rw [List.countP_eq_zero]; simp
  rw [e1]
  simp [dcount, dupAt]

/-- What the law wants. -/
def d4 (e : E4) : Nat := dcount [e.1, e.2.1, e.2.2.1, e.2.2.2] 4
def d3 (e : E3) : Nat := dcount [e.1, e.2.1, e.2.2, 0] 3
def want4 : List E4 → Nat
  | [] => 0
  | e :: r => d4 e + want4 r
def want3 : List E3 → Nat
  | [] => 0
  | e :: r => d3 e + want3 r
theorem want4_snoc : ∀ (l : List E4) (e : E4), want4 (l ++ [e]) = want4 l + d4 e
  | [], e => by simp [want4]
  | x :: r, e => by simp only [List.cons_append, want4, want4_snoc r e]; omega
theorem want3_snoc : ∀ (l : List E3) (e : E3), want3 (l ++ [e]) = want3 l + d3 e
  | [], e => by simp [want3]
  | x :: r, e => by simp only [List.cons_append, want3, want3_snoc r e]; omega
theorem want4_le : ∀ l : List E4, want4 l ≤ 4 * l.length
  | [] => Nat.le_refl _
  | e :: r => by have := want4_le r; have := dcount_le [e.1, e.2.1, e.2.2.1, e.2.2.2] 4; simp only [want4, d4, List.length_cons]; omega
theorem want3_le : ∀ l : List E3, want3 l ≤ 3 * l.length
  | [] => Nat.le_refl _
  | e :: r => by have := want3_le r; have := dcount_le [e.1, e.2.1, e.2.2, 0] 3; simp only [want3, d3, List.length_cons]; omega
theorem esum_want4 : ∀ l : List E4, (∀ e ∈ l, Ok4 e) → esum 256 (l.map ent4) = want4 l
  | [], _ => rfl
  | e :: r, h => by
    obtain ⟨h1, h2, h3, h4⟩ := h e (by simp)
    simp only [List.map_cons, esum, want4, esum_want4 r (fun x hx => h x (by simp [hx]))]
    rw [ent4, cN_ent4 _ _ _ _ h1 h2 h3 h4]
    rfl
theorem esum_want3 : ∀ l : List E3, (∀ e ∈ l, Ok3 e) → esum 256 (l.map ent3) = want3 l
  | [], _ => rfl
  | e :: r, h => by
    obtain ⟨h1, h2, h3⟩ := h e (by simp)
    simp only [List.map_cons, esum, want3, esum_want3 r (fun x hx => h x (by simp [hx]))]
    rw [ent3, cN_ent3 _ _ _ h1 h2 h3]
    rfl

theorem mem_foldl_insG {α : Type} [DecidableEq α] : ∀ (l E : List α) {x : α}, x ∈ l.foldl insG E → x ∈ E ∨ x ∈ l
  | [], _, _, h => .inl h
  | e :: r, E, x, h => by
    rcases mem_foldl_insG r (insG E e) h with h | h
    · unfold insG at h
      split at h
      · exact .inl h
      · rcases List.mem_append.1 h with h | h
        · exact .inl h
        · exact .inr (by simp at h; simp [h])
    · exact .inr (by simp [h])
theorem mem_ddup {α : Type} [DecidableEq α] {l : List α} {x : α} (h : x ∈ ddup l) : x ∈ l := by
  rcases mem_foldl_insG l [] h with h | h
  · simp at h
  · exact h

/-- THE LAW, PLAIN: summed over all 256 roles, naming counts every distinct entry once for each distinct role that it names. -/
theorem total_want (la : List E4) (lr : List E3) (ha : ∀ e ∈ la, Ok4 e) (hr : ∀ e ∈ lr, Ok3 e) :
    tsum (insAll (la.map ent4)) (insAll (lr.map ent3)) 256 = want4 (ddup la) + want3 (ddup lr) := by
  rw [tsum_eq, insAll_eq, insAll_eq, ← map_ddup ent4 ent4_inj, ← map_ddup ent3 ent3_inj, esum_want4 _ (fun e he => ha e (mem_ddup he)), esum_want3 _ (fun e he => hr e (mem_ddup he))]

end Go.Proofs.Qxb6616888a
