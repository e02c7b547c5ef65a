import Derived.Test.Qxb6616888aRows
import Derived.WalkKit
import Derived.WalkSpells
import Derived.Maps.RangeWalk
import Derived.LaidEqlPtr
namespace Go.Proofs.Qxb6616888a
open Go.RowKit Go.MapKept Go.ChangeMaps

theorem hide {p : Prop} (h : p) : Hid p := h

/-- WHAT A MAP's OPERATIONS ASK OF THE KEYS, AS VALUES, IN THE WORLD w. -/
structure KeyV (P : Program) (k : TypeId) (w : World) (K : Value → Prop) : Prop where
  check : ∀ (em : Bool) {v : Value}, K v → (Instr.checkKey em 10000 k v).run P w = .ok () w
  find : ∀ {x : Value}, K x → ∀ es : List MapEntry, (∀ e ∈ es, K e.key) →
    ((Instr.findKey k x es).run P w = .ok none w ∧ ∀ e ∈ es, e.key ≠ x) ∨ ∃ j e, (Instr.findKey k x es).run P w = .ok (some (j, e.val)) w ∧ es[j]? = some e ∧ e.key = x
  stays : ∀ {v : Value}, K v → (Instr.keyThatStays v v).run P w = .ok v w

section
variable {P : Program} {k : TypeId} {w : World} {K : Value → Prop}

theorem run_asking (heq : ∀ {x y : Value}, K x → K y → ((Op.equal k x y).run P w = .ok true w ∧ x = y) ∨ ((Op.equal k x y).run P w = .ok false w ∧ x ≠ y)) {x : Value} (hx : K x) :
    ∀ (es : List MapEntry) (i : Nat), (∀ e ∈ es, K e.key) →
    ((Instr.findAsking k x es i).run P w = .ok none w ∧ ∀ e ∈ es, e.key ≠ x) ∨ ∃ j e, (Instr.findAsking k x es i).run P w = .ok (some (i + j, e.val)) w ∧ es[j]? = some e ∧ e.key = x
  | [], i, _ => .inl ⟨by simp [Instr.findAsking], by simp⟩
  | e :: r, i, h => by
    rcases heq hx (h e (by simp)) with ⟨h1, h2⟩ | ⟨h1, h2⟩
    · exact .inr ⟨0, e, by simp [Instr.findAsking, h1, Result.andThen], rfl, h2.symm⟩
    · rcases run_asking heq hx r (i + 1) (fun e' he' => h e' (by simp [he'])) with ⟨h3, h4⟩ | ⟨j, e', h3, h4, h5⟩
      · refine .inl ⟨by simp [Instr.findAsking, h1, h3, Result.andThen], fun e' he' => ?_⟩
        rcases List.mem_cons.1 he' with rfl | he'
        · exact h2.symm
        · exact h4 e' he'
      · refine .inr ⟨j + 1, e', ?_, by simpa using h4, h5⟩
        simp only [Instr.findAsking, Sem.run_bind, h1, Result.andThen_ok, Bool.false_eq_true, if_false, h3]
        rw [show i + 1 + j = i + (j + 1) by omega]

theorem KeyV.mk' {d : TypeDesc} (hd : P.underlying k = some d) (hno : ∀ {x y : Value}, K x → K y → Instr.sameNow d x y = none)
    (hcheck : ∀ (em : Bool) {v : Value}, K v → (Instr.checkKey em 10000 k v).run P w = .ok () w)
    (heq : ∀ {x y : Value}, K x → K y → ((Op.equal k x y).run P w = .ok true w ∧ x = y) ∨ ((Op.equal k x y).run P w = .ok false w ∧ x ≠ y))
    (hst : ∀ {v : Value}, K v → Instr.sameBits 10000 v v = true) : KeyV P k w K where
  check := hcheck
  find := by
    intro x hx es hes
    cases es with
    | nil => exact .inl ⟨by simp [Instr.findKey, run_underlying hd, Instr.findNow], by simp⟩
    | cons e r =>
      have hn : Instr.findNow d x (e :: r) 0 = none := by simp [Instr.findNow, hno hx (hes e (by simp))]
      have hrun : (Instr.findKey k x (e :: r)).run P w = (Instr.findAsking k x (e :: r)).run P w := by
        simp [Instr.findKey, run_underlying hd, hn]
      rw [hrun]
      rcases run_asking heq hx (e :: r) 0 hes with h | ⟨j, e', h1, h2, h3⟩
      · exact .inl h
      · exact .inr ⟨j, e', by simpa using h1, h2, h3⟩
  stays := by
    intro v hv
    simp [Instr.keyThatStays, hst hv]

end

/-- BLOCK b IS A MAP: its entries, in the order in which their keys came. -/
def VMap (w : World) (b : Nat) (kv : List (Value × Value)) : Prop :=
  ∃ es clock, w.heap[b]? = some (.map es clock) ∧ Stamped es clock ∧ es.toList.map (fun e => (e.key, e.val)) = kv

theorem VMap.lt {w : World} {b : Nat} {kv : List (Value × Value)} (h : VMap w b kv) : b < w.heap.size := by
  obtain ⟨es, c, hb, _⟩ := h
  exact (Array.getElem?_eq_some_iff.1 hb).1

theorem VMap.of_block {w w' : World} {b : Nat} {kv : List (Value × Value)} (h : VMap w b kv) (hb : w'.heap[b]? = w.heap[b]?) : VMap w' b kv := by
  obtain ⟨es, c, h1, r⟩ := h
  exact ⟨es, c, by rw [hb]; exact h1, r⟩

theorem VMap.made (w : World) : VMap (w.alloc (.map #[] 0)) w.heap.size [] :=
  ⟨#[], 0, (MapKept.heap_alloc w _).1, stamped_empty 0, rfl⟩

theorem VMap.keys_apart {w : World} {b : Nat} {kv : List (Value × Value)} (h : VMap w b kv) : kv.Pairwise (fun p q => p.1 ≠ q.1) := by
  obtain ⟨es, c, _, hs, rfl⟩ := h
  rw [List.pairwise_map]
  exact ((stamped_iff es c).1 hs).2.2

section
variable {P : Program} {k e t : TypeId} {w : World} {K : Value → Prop} {b : Nat} {kv : List (Value × Value)}

theorem VMap.look (h : VMap w b kv) (L : KeyV P k w K) (ht : P.underlying t = some (.map k e)) {z : Value} (hz : (zeroValue e).run P w = .ok z w) (hK : ∀ p ∈ kv, K p.1) {x : Value} (hx : K x) :
    ((∀ p ∈ kv, p.1 ≠ x) ∧ (Instr.lookup t (.map (some b)) x false).run P w = .ok z w) ∨ ∃ v, (x, v) ∈ kv ∧ (Instr.lookup t (.map (some b)) x false).run P w = .ok v w := by
  obtain ⟨es, c, hb, hs, rfl⟩ := h
  have hKe : ∀ e ∈ es.toList, K e.key := fun e he => hK (e.key, e.val) (List.mem_map.2 ⟨e, he, rfl⟩)
  rcases L.find hx es.toList hKe with ⟨h1, h2⟩ | ⟨j, e0, h1, h2, h3⟩
  · refine .inl ⟨fun p hp => ?_, by simp [Instr.lookup, run_underlying ht, MapKept.run_getObj_map hb, L.check _ hx, h1, hz, Result.andThen]⟩
    obtain ⟨e, he, rfl⟩ := List.mem_map.1 hp
    exact h2 e he
  · exact .inr ⟨e0.val, List.mem_map.2 ⟨e0, List.mem_of_getElem? h2, by rw [h3]⟩, by simp [Instr.lookup, run_underlying ht, MapKept.run_getObj_map hb, L.check _ hx, h1, Result.andThen]⟩

theorem VMap.put (h : VMap w b kv) (L : KeyV P k w K) (ht : P.underlying t = some (.map k e)) (hK : ∀ p ∈ kv, K p.1) {x : Value} (hx : K x) (v : Value) :
    ∃ w', (Instr.mapUpdate t (.map (some b)) x v).run P w = .ok () w' ∧ w.grownBy w' (some b) ∧ w'.heap.size = w.heap.size ∧
      (((∀ p ∈ kv, p.1 ≠ x) ∧ VMap w' b (kv ++ [(x, v)])) ∨ ∃ j u, kv[j]? = some (x, u) ∧ VMap w' b (kv.set j (x, v))) := by
  obtain ⟨es, c, hb, hs, rfl⟩ := h
  have hKe : ∀ e ∈ es.toList, K e.key := fun e he => hK (e.key, e.val) (List.mem_map.2 ⟨e, he, rfl⟩)
  have hgr : ∀ o, w.grownBy (setBlock w b o) (some b) := fun o => ⟨rfl, rfl, rfl, by simp [setBlock], fun i _ hi => heap_setBlock_other hb _ (fun e => hi (by rw [e]))⟩
  rcases L.find hx es.toList hKe with ⟨h1, h2⟩ | ⟨j, e0, h1, h2, h3⟩
  · refine ⟨setBlock w b (.map (es.push ⟨x, v, c⟩) (c + 1)), ?_, hgr _, by simp [setBlock], .inl ⟨fun p hp => ?_, ?_⟩⟩
    · simp [Instr.mapUpdate, run_underlying ht, MapKept.run_getObj_map hb, L.check false hx, h1, MapKept.run_setObj_map _ hb, Result.andThen, setBlock]
    · obtain ⟨e, he, rfl⟩ := List.mem_map.1 hp
      exact h2 e he
    · exact ⟨_, _, heap_setBlock_same hb _, stamped_push hs h2, by simp⟩
  · have hj : es[j]? = some e0 := by simpa using h2
    have hjl : j < es.toList.length := (List.getElem?_eq_some_iff.1 h2).1
    have hlist : (es.modify j (fun e' => { e' with key := x, val := v })).toList = es.toList.set j { e0 with key := x, val := v } := by rw [Array.toList_modify, modify_eq_set _ _ _ _ h2]
    refine ⟨setBlock w b (.map (es.modify j (fun e' => { e' with key := x, val := v })) c), ?_, hgr _, by simp [setBlock], .inr ⟨j, e0.val, ?_, ?_⟩⟩
    · simp [Instr.mapUpdate, run_underlying ht, MapKept.run_getObj_map hb, L.check false hx, h1, hj, h3, L.stays hx, MapKept.run_setObj_map _ hb, Result.andThen, setBlock]
    · rw [List.getElem?_map, h2]; simp [h3]
    · refine ⟨_, _, heap_setBlock_same hb _, stamped_modify hs _ _ (fun _ _ => rfl) (fun e' _ he' => by rw [hj] at he'; cases he'; exact h3.symm), ?_⟩
      rw [hlist, List.map_set]
end

end Go.Proofs.Qxb6616888a
