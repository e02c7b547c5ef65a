import Derived.Test.Qxb6616888aSum
namespace Go.Proofs.Qxb6616888a
open Go.RowKit Go.MapKept Go.ChangeMaps

abbrev v4 (e : E4) : Value := arr4 e.1 e.2.1 e.2.2.1 e.2.2.2
abbrev v3 (e : E3) : Value := arr3 e.1 e.2.1 e.2.2
def Seen4 (w : World) (b : Nat) (D : List E4) : Prop := VMap w b (D.map fun e => (v4 e, .bool true))
def Seen3 (w : World) (b : Nat) (D : List E3) : Prop := VMap w b (D.map fun e => (v3 e, .bool true))

theorem v4_inj {a b : E4} (h : v4 a = v4 b) : a = b := by
  obtain ⟨a1, a2, a3, a4⟩ := a
  obtain ⟨b1, b2, b3, b4⟩ := b
  simp at h
  simp; omega
theorem v3_inj {a b : E3} (h : v3 a = v3 b) : a = b := by
  obtain ⟨a1, a2, a3⟩ := a
  obtain ⟨b1, b2, b3⟩ := b
  simp at h
  simp; omega

theorem Seen4.look {w : World} {b : Nat} {D : List E4} (h : Seen4 w b D) (e : E4) : (Instr.lookup 29 (.map (some b)) (v4 e) false).run Try.prog w = .ok (.bool (decide (e ∈ D))) w := by
  rcases VMap.look h (key4 w) Try.underlying29 (zero4 w) (fun p hp => by obtain ⟨x, _, rfl⟩ := List.mem_map.1 hp; exact ⟨_, _, _, _, rfl⟩) (x := v4 e) ⟨_, _, _, _, rfl⟩ with ⟨h1, h2⟩ | ⟨v, h1, h2⟩
  · rw [h2, decide_eq_false (fun hm => h1 _ (List.mem_map.2 ⟨e, hm, rfl⟩) rfl)]
  · obtain ⟨x, hx, he⟩ := List.mem_map.1 h1
    have h3 : v4 x = v4 e := congrArg Prod.fst he
    have h4 : Value.bool true = v := congrArg Prod.snd he
    rw [h2, ← h4, decide_eq_true (v4_inj h3 ▸ hx)]
theorem Seen3.look {w : World} {b : Nat} {D : List E3} (h : Seen3 w b D) (e : E3) : (Instr.lookup 32 (.map (some b)) (v3 e) false).run Try.prog w = .ok (.bool (decide (e ∈ D))) w := by
  rcases VMap.look h (key3 w) Try.underlying32 (zero4 w) (fun p hp => by obtain ⟨x, _, rfl⟩ := List.mem_map.1 hp; exact ⟨_, _, _, rfl⟩) (x := v3 e) ⟨_, _, _, rfl⟩ with ⟨h1, h2⟩ | ⟨v, h1, h2⟩
  · rw [h2, decide_eq_false (fun hm => h1 _ (List.mem_map.2 ⟨e, hm, rfl⟩) rfl)]
  · obtain ⟨x, hx, he⟩ := List.mem_map.1 h1
    have h3 : v3 x = v3 e := congrArg Prod.fst he
    have h4 : Value.bool true = v := congrArg Prod.snd he
    rw [h2, ← h4, decide_eq_true (v3_inj h3 ▸ hx)]

theorem Seen4.put {w : World} {b : Nat} {D : List E4} (h : Seen4 w b D) {e : E4} (he : e ∉ D) : ∃ w', (Instr.mapUpdate 29 (.map (some b)) (v4 e) (.bool true)).run Try.prog w = .ok () w' ∧ w.grownBy w' (some b) ∧ w'.heap.size = w.heap.size ∧ Seen4 w' b (D ++ [e]) := by
  obtain ⟨w', h1, h2, h3, h4⟩ := VMap.put h (key4 w) Try.underlying29 (fun p hp => by obtain ⟨x, _, rfl⟩ := List.mem_map.1 hp; exact ⟨_, _, _, _, rfl⟩) (x := v4 e) ⟨_, _, _, _, rfl⟩ (.bool true)
  refine ⟨w', h1, h2, h3, ?_⟩
  rcases h4 with ⟨_, h5⟩ | ⟨j, u, h5, _⟩
  · unfold Seen4
    rw [List.map_append]
    exact h5
  · obtain ⟨x, hx, hxe⟩ := List.mem_map.1 (List.mem_of_getElem? h5)
    exact absurd (v4_inj (congrArg Prod.fst hxe) ▸ hx) he
theorem Seen3.put {w : World} {b : Nat} {D : List E3} (h : Seen3 w b D) {e : E3} (he : e ∉ D) : ∃ w', (Instr.mapUpdate 32 (.map (some b)) (v3 e) (.bool true)).run Try.prog w = .ok () w' ∧ w.grownBy w' (some b) ∧ w'.heap.size = w.heap.size ∧ Seen3 w' b (D ++ [e]) := by
  obtain ⟨w', h1, h2, h3, h4⟩ := VMap.put h (key3 w) Try.underlying32 (fun p hp => by obtain ⟨x, _, rfl⟩ := List.mem_map.1 hp; exact ⟨_, _, _, rfl⟩) (x := v3 e) ⟨_, _, _, rfl⟩ (.bool true)
  refine ⟨w', h1, h2, h3, ?_⟩
  rcases h4 with ⟨_, h5⟩ | ⟨j, u, h5, _⟩
  · unfold Seen3
    rw [List.map_append]
    exact h5
  · obtain ⟨x, hx, hxe⟩ := List.mem_map.1 (List.mem_of_getElem? h5)
    exact absurd (v3_inj (congrArg Prod.fst hxe) ▸ hx) he

theorem Seen4.grown {w w' : World} {b : Nat} {D : List E4} (h : Seen4 w b D) (hg : w.grownBy w' none) : Seen4 w' b D := VMap.of_block h (hg.block b (VMap.lt h) (fun e => by cases e))
theorem Seen3.grown {w w' : World} {b : Nat} {D : List E3} (h : Seen3 w b D) (hg : w.grownBy w' none) : Seen3 w' b D := VMap.of_block h (hg.block b (VMap.lt h) (fun e => by cases e))

/-- One list of entries, as it is gone through. -/
theorem ddup_old {α : Type} [DecidableEq α] {l : List α} {k : Nat} {e : α} (h : l[k]? = some e) (hm : e ∈ ddup (l.take k)) : ddup (l.take (k + 1)) = ddup (l.take k) := by
  have hk := (List.getElem?_eq_some_iff.1 h).1
  rw [List.take_succ_eq_append_getElem hk, ddup_snoc, (List.getElem?_eq_some_iff.1 h).2, insG, if_pos hm]
theorem ddup_new {α : Type} [DecidableEq α] {l : List α} {k : Nat} {e : α} (h : l[k]? = some e) (hm : e ∉ ddup (l.take k)) : ddup (l.take (k + 1)) = ddup (l.take k) ++ [e] := by
  have hk := (List.getElem?_eq_some_iff.1 h).1
  rw [List.take_succ_eq_append_getElem hk, ddup_snoc, (List.getElem?_eq_some_iff.1 h).2, insG, if_neg hm]
theorem ddup_take_len {α : Type} [DecidableEq α] (l : List α) (k : Nat) : (ddup (l.take k)).length ≤ k := Nat.le_trans (ddup_len _) (by simp; omega)

theorem zznaming_any (p A R B0 t : Nat) (ρ : Nat → Nat) (EA ER : List Ent) (w : World) (hp : PolAt w p A R) (hA : PolMap w A B0 ρ EA) (hR : PolMap w R B0 ρ ER) (hr : Roles w ρ)
    (hEA : ∀ x ∈ EA, EntOk x) (hER : ∀ x ∈ ER, EntOk x) (ht : t < 256) (hl1 : EA.length ≤ 4096) (hl2 : ER.length ≤ 4096) :
    Calls Try.prog 8 #[rp p, rp (ρ t)] w fun e w' => e = .returned (.int .i64 ((EA.countP (named t) + ER.countP (named t) : Nat) : Int)) ∧ Below w.heap.size w w' := by
  have HN := hide (naming_any p A R B0 t ρ EA ER w hp hA hR hr hEA hER ht hl1 hl2)
  clear hp hA hR hr hEA hER ht hl1 hl2
  go_enter Try.func8, Try.ntmps8
  go_wp2_with fail
  refine HN.out.mono ?_
  rintro e w1 ⟨rfl, hb⟩
  go_wp2
  go_ret
  exact ⟨rfl, hb⟩
end Go.Proofs.Qxb6616888a
