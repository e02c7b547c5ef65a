import Derived.Test.Qxb6616888aPut
namespace Go.Proofs.Qxb6616888a
open Go.RowKit Go.ChangeMaps

/-- Does the entry name the role t? -/
def named (t : Nat) (e : Ent) : Bool := e.1 == t || e.2.1 == t || e.2.2.1 == t || e.2.2.2 == some t

theorem cnt_none (seen : Array Nat) (b : Nat) (N : MapEntry → Bool) : ∀ l : List MapEntry, (∀ y ∈ l, y.born ≠ b) → l.countP (fun y => (seen.push b).contains y.born && N y) = l.countP (fun y => seen.contains y.born && N y)
  | [], _ => rfl
  | y :: r, h => by
    have h1 : (y.born == b) = false := by simpa using h y (by simp)
    rw [List.countP_cons, List.countP_cons, cnt_none seen b N r (fun z hz => h z (by simp [hz])), contains_push, h1, Bool.or_false]

theorem cnt_push (seen : Array Nat) (x : MapEntry) (hx : seen.contains x.born = false) (N : MapEntry → Bool) : ∀ l : List MapEntry, (l.map (·.born)).Nodup → x ∈ l →
    l.countP (fun y => (seen.push x.born).contains y.born && N y) = l.countP (fun y => seen.contains y.born && N y) + (if N x = true then 1 else 0)
  | [], _, h => by simp at h
  | y :: r, hn, hm => by
    simp only [List.map_cons, List.nodup_cons] at hn
    rw [List.countP_cons, List.countP_cons]
    rcases List.mem_cons.1 hm with e | hm
    · subst e
      rw [cnt_none seen x.born N r (fun z hz e => hn.1 (List.mem_map.2 ⟨z, hz, e⟩)), contains_push, hx]
      simp
    · have hne : (y.born == x.born) = false := by
        cases hb : (y.born == x.born)
        · rfl
        · exact absurd (List.mem_map.2 ⟨x, hm, (by simpa using hb : y.born = x.born).symm⟩) hn.1
      rw [cnt_push seen x hx N r hn.2 hm, contains_push, hne, Bool.or_false]
      omega

theorem cnt_all (seen : Array Nat) (N : MapEntry → Bool) (l : List MapEntry) (h : ∀ x ∈ l, seen.contains x.born = true) : l.countP (fun y => seen.contains y.born && N y) = l.countP N := by
  apply List.countP_congr
  intro y hy
  rw [h y hy, Bool.true_and]

theorem cnt_start (N : MapEntry → Bool) (l : List MapEntry) : l.countP (fun y => (#[] : Array Nat).contains y.born && N y) = 0 := by
  rw [List.countP_eq_zero]
  intro y _
  simp

theorem cnt_zip {α β : Type} (N : α → Bool) (M : β → Bool) : ∀ (l : List α) (m : List β), l.length = m.length → (∀ (i : Nat) (x : α) (e : β), l[i]? = some x → m[i]? = some e → N x = M e) → l.countP N = m.countP M
  | [], [], _, _ => rfl
  | [], _ :: _, h, _ => by simp at h
  | _ :: _, [], h, _ => by simp at h
  | x :: l, e :: m, h, hh => by
    rw [List.countP_cons, List.countP_cons, cnt_zip N M l m (by simpa using h) (fun i y f hy hf => hh (i + 1) y f (by simpa using hy) (by simpa using hf)), hh 0 x e rfl rfl]

/-- A predicate on entries that says, of each, what M says of its fellow in the list E. -/
theorem fellow {E : List Ent} (es : List MapEntry) (hp : es.Pairwise (fun x y => x.key ≠ y.key)) (M : Ent → Bool) : ∃ N : MapEntry → Bool, ∀ (i : Nat) (x : MapEntry) (e : Ent), es[i]? = some x → E[i]? = some e → N x = M e := by
  classical
  refine ⟨fun x => decide (∃ (i : Nat) (e : Ent), es[i]? = some x ∧ E[i]? = some e ∧ M e = true), fun i x e hx he => ?_⟩
  by_cases h : M e = true
  · rw [h]; exact decide_eq_true ⟨i, e, hx, he, h⟩
  · have h' : M e = false := by simpa using h
    rw [h']
    refine decide_eq_false ?_
    rintro ⟨j, e', hj, he', hM⟩
    have hi1 := (List.getElem?_eq_some_iff.1 hx)
    have hj1 := (List.getElem?_eq_some_iff.1 hj)
    have hij : i = j := by
      rcases Nat.lt_trichotomy i j with hlt | heq | hlt
      · have := List.pairwise_iff_getElem.1 hp i j hi1.1 hj1.1 hlt
        rw [hi1.2, hj1.2] at this
        exact absurd rfl this
      · exact heq
      · have := List.pairwise_iff_getElem.1 hp j i hj1.1 hi1.1 hlt
        rw [hi1.2, hj1.2] at this
        exact absurd rfl this
    subst hij
    rw [he] at he'
    cases he'
    exact h hM

/-- The range's step, as equations. -/
theorem next_step {wi : World} {r b since c0 clock : Nat} {seen : Array Nat} {es : Array MapEntry} (hr : wi.heap[r]? = some (.mapIter (some b) since seen c0)) (hb : wi.heap[b]? = some (.map es clock))
    (hold : ∀ x ∈ es.toList, x.born < since) (hsc : since ≤ c0) (hn : (es.toList.map (·.born)).Nodup) (hne : b ≠ r) :
    ((∀ x ∈ es.toList, seen.contains x.born = true) ∧ (Instr.next (.pointer (some ⟨r, 0, none⟩)) false 0).run Try.prog wi = .ok (.tuple #[.bool false]) wi) ∨
    ∃ x w2, x ∈ es.toList ∧ seen.contains x.born = false ∧ (leftOf es (seen.push x.born)).size < (leftOf es seen).size ∧ (Instr.next (.pointer (some ⟨r, 0, none⟩)) false 0).run Try.prog wi = .ok (.tuple #[.bool true, x.key, x.val]) w2 ∧
      (Instr.entry (.pointer (some ⟨r, 0, none⟩))).run Try.prog w2 = .ok (.tuple #[x.key, x.val]) w2 ∧ w2.heap[r]? = some (.mapIter (some b) since (seen.push x.born) clock) ∧ Below r wi w2 ∧ w2.heap[b]? = some (.map es clock) := by
  rcases run_next_at (P := Try.prog) wi 0 r b since c0 seen es clock hr hb hold hsc with ⟨h0, hrun⟩ | ⟨x, hx, w1, hal, hrun⟩
  · exact .inl ⟨all_seen es seen h0, hrun⟩
  · obtain ⟨hm, hs⟩ := mem_left hx
    have hr1 : w1.heap[r]? = some (.mapIter (some b) since seen c0) := by rcases hal with rfl | rfl <;> exact hr
    have hb1 : w1.heap[b]? = some (.map es clock) := by rcases hal with rfl | rfl <;> exact hb
    have hlt : r < w1.heap.size := (Array.getElem?_eq_some_iff.1 hr1).1
    have e1 : (setBlock w1 r (.mapIter (some b) since (seen.push x.born) clock)).heap[r]? = some (.mapIter (some b) since (seen.push x.born) clock) := by rw [heap_setBlock_if _ _ _ _ hlt, if_pos rfl]
    have e2 : (setBlock w1 r (.mapIter (some b) since (seen.push x.born) clock)).heap[b]? = some (.map es clock) := by rw [heap_setBlock_if _ _ _ _ hlt, if_neg hne]; exact hb1
    refine .inr ⟨x, _, hm, hs, left_shrinks es seen x hx, hrun, run_entry_at _ r b since seen es clock x e1 e2 hm hn, e1, ?_, e2⟩
    have hbl : Below r wi w1 := by rcases hal with rfl | rfl
                                   · exact Below.refl _ _
                                   · exact (Below.refl _ _).drew
    exact below_setBlock hbl (Nat.le_refl _) _

end Go.Proofs.Qxb6616888a
