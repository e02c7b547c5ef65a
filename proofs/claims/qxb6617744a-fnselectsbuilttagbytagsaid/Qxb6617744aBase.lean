import Derived.Test.Qxb6617744aRows
import Derived.WalkKit
import Derived.WalkSpells
import Derived.Maps.RangeWalk
import Derived.Maps.StringElems
namespace Go.Proofs.Qxb6617744a
open Go.RowKit Go.Maps

theorem law9 : Keyed Try.prog 9 := string_keyed Try.underlying9
theorem zero9 (w : World) : (zeroValue 9).run Try.prog w = .ok (.string ⟨#[]⟩) w := by kernel_rfl

/-- What is read at a key that is not there. -/
def Z {H : Type} : DataW H := .lit (.string [])

/-- The value is a map (nil or not) that reads as D. -/
def MapIs {H : Type} (w : World) (v : Value) (D : DataW H) : Prop :=
  (v = .map none ∧ D = .map []) ∨ ∃ b n, v = .map (some b) ∧ w.ownsMap Try.prog 9 (plainElem Try.prog 9) b n D

/-- Every tag of D1 stands in D2. -/
def Sel {H : Type} (D1 D2 : DataW H) : Prop := ∀ kl, Maps.has D1 kl = true → Maps.has D2 kl = true ∧ D2.atKey kl Z = D1.atKey kl Z

theorem keyOf_s {key : Value} {kl : Lit} (h : keyOf Try.prog 9 key = some kl) : ∃ s : ByteArray, key = .string s ∧ kl = .string s.data.toList ∧ s.size ≤ maxLen := by
  cases key <;> simp [keyOf, Try.underlying9, mapKey] at h
  exact ⟨_, rfl, h.2.symm, h.1⟩

theorem look_ok {H : Type} {w : World} {v : Value} {D : DataW H} (h : MapIs w v D) (s : ByteArray) (hs : s.size ≤ maxLen) :
    ∃ c : ByteArray, (Instr.lookup 22 v (.string s) true).run Try.prog w = .ok (.tuple #[.string c, .bool (Maps.has D (.string s.data.toList))]) w ∧ D.atKey (.string s.data.toList) Z = .lit (.string c.data.toList) := by
  have hkey := WideMaps.keyOf_string_mk Try.underlying9 hs
  rcases h with ⟨rfl, rfl⟩ | ⟨b, n, rfl, hown⟩
  · have := Maps.look_nil (w := w) true law9 Try.underlying22 (zero9 w) hkey
    exact ⟨⟨#[]⟩, by simpa [Maps.has] using this, rfl⟩
  · obtain ⟨v, ps, hrun, hv⟩ := hown.look_ok law9 Try.underlying22 (zero9 w) (plainElem_string (H := H) Try.underlying9 (s := ⟨#[]⟩) (by simp [ByteArray.size])) hkey
    obtain ⟨c, rfl, hc, _⟩ := plainElem_string_inv Try.underlying9 hv
    exact ⟨c, hrun, congrArg Prod.fst hc⟩

theorem len_ok {H : Type} {w : World} {v : Value} {D : DataW H} (h : MapIs w v D) : (Builtin.len_ #[22] 3 #[v]).run Try.prog w = .ok (.int .i64 (Maps.size D)) w := by
  rcases h with ⟨rfl, rfl⟩ | ⟨b, n, rfl, hown⟩
  · exact Maps.len_nil Try.underlying22 3
  · exact hown.len Try.underlying22 3

theorem MapIs.below {H : Type} {B : Nat} {w w' : World} {v : Value} {D : DataW H} (h : MapIs w v D) (hb : Below B w w') (hv : ∀ b, v = .map (some b) → b < B) : MapIs w' v D := by
  rcases h with h | ⟨b, n, rfl, es, clock, hbk, r⟩
  · exact .inl h
  · exact .inr ⟨b, n, rfl, es, clock, by rw [hb.block b (hv b rfl)]; exact hbk, r⟩

theorem MapIs.lt {H : Type} {w : World} {v : Value} {D : DataW H} (h : MapIs w v D) : ∀ b, v = .map (some b) → b < w.heap.size := by
  rcases h with ⟨rfl, _⟩ | ⟨b, n, rfl, hown⟩
  · intro b hb; cases hb
  · intro b' hb'; cases hb'; exact hown.lt

theorem MapIs.next {H : Type} {w w' : World} {v : Value} {D : DataW H} (h : MapIs w v D) (hb : Below w.heap.size w w') : MapIs w' v D := h.below hb h.lt

theorem str_neq {g c : ByteArray} (h : g.data.toList ≠ c.data.toList) : (!g.toList == c.toList) = true := by
  rw [ByteArray.toList_eq, ByteArray.toList_eq]; simpa using h
theorem str_same {g c : ByteArray} (h : g.data.toList = c.data.toList) : (!g.toList == c.toList) = false := by
  rw [ByteArray.toList_eq, ByteArray.toList_eq, h]; simp

/-- One entry more has been met and stands in the other map. -/
theorem met_step {H : Type} {D Da : DataW H} {left : Lit → Bool} {kl : Lit} (hd : ∀ k, Maps.has D k = true → left k = false → Maps.has Da k = true ∧ Da.atKey k Z = D.atKey k Z)
    (h1 : Maps.has Da kl = true) (h2 : Da.atKey kl Z = D.atKey kl Z) :
    ∀ k, Maps.has D k = true → (left k && !k.sameKey kl) = false → Maps.has Da k = true ∧ Da.atKey k Z = D.atKey k Z := by
  intro k hk hl
  cases hs : k.sameKey kl
  · rw [hs] at hl
    exact hd k hk (by simpa using hl)
  · obtain rfl := WideAt.sameKey_eq hs
    exact ⟨h1, h2⟩

set_option maxRecDepth 100000 in
set_option maxHeartbeats 1000000 in
theorem selects_some {H : Type} (kind : Int) (name ns : ByteArray) (tags arg : Value) (b n : Nat) (D Da : DataW H) (w : World) (hown : w.ownsMap Try.prog 9 (plainElem Try.prog 9) b n D) (harg : MapIs w arg Da) :
    Calls Try.prog 7 #[.agg #[.int .i64 kind, .string name, .string ns, tags, .map (some b)], arg] w fun e w' => ∃ x, e = .returned (.bool x) ∧ (x = true ↔ Sel D Da) ∧ Below w.heap.size w w' := by
  have hbl := hown.lt
  have HA : Hid (MapIs w arg Da) := harg
  clear harg
  go_enter Try.func7, Try.ntmps7
  go_wp2_with (first
    | (at_range; refine wpList_range_own _ rfl _ 22 rfl 9 9 law9 Try.underlying22 _ b n D rfl (hown.alloc _) ?_; intro w0 hrg0 hg0 hs0))
  simp only [World.size_alloc] at hrg0 hs0
  go_frame
  simp only [World.size_alloc]
  have hbel0 : Below w.heap.size w w0 := ((Below.refl _ _).alloc (Nat.le_refl _) _).grown hg0 (by simp) (fun j hj => by cases hj)
  clear hg0 hs0
  go_loopw [5] (fun _ wr => ∃ left cnt, wr.ranges Try.prog 9 (plainElem Try.prog 9) b (w.heap.size + 1) n D left cnt ∧ (∀ kl, Maps.has D kl = true → left kl = false → Maps.has Da kl = true ∧ Da.atKey kl Z = D.atKey kl Z) ∧ Below w.heap.size w wr) (fun _ wr => wr.rangeLeft b (w.heap.size + 1))
  case atStart => exact ⟨_, _, hrg0, (fun kl h1 h2 => absurd (h1.symm.trans h2) (by decide)), hbel0⟩
  case round =>
    obtain ⟨left, cnt, hrg, hdone, hnx⟩ := hrel
    have HD : Hid _ := hdone
    clear hdone hrg0 hbel0
    go_wp2_with (first
      | (at_next; refine wpList_next_ranges _ rfl _ rfl 9 law9 (plainElem Try.prog 9) Value.string Value.string (fun key kl hk => by obtain ⟨x, hx, _⟩ := keyOf_s hk; exact ⟨x, hx⟩) (fun v y hv => by obtain ⟨c, rfl, _⟩ := plainElem_string_inv Try.underlying9 hv; exact ⟨c, rfl⟩) b (w.heap.size + 1) n _ _ _ rfl hrg ?_ ?_))
    · intro hc0 hl0
      go_wp2
      go_ret
      refine ⟨true, rfl, ⟨fun _ kl hk => HD.out kl hk (hl0 kl), fun _ => rfl⟩, hnx⟩
    · intro x c kl yd yp w2 cnt2 hkey hlk hv hat hrg2 hlt hg2 hs2 hen
      obtain ⟨x', ex, rfl, hxl⟩ := keyOf_s hkey
      cases ex
      obtain ⟨c', ec, hy, _⟩ := plainElem_string_inv Try.underlying9 hv
      cases ec
      have hat' : D.atKey (.string x.data.toList) Z = .lit (.string c.data.toList) := (hat Z).trans (congrArg Prod.fst hy)
      have hnx2 : Below w.heap.size w w2 := hnx.grown hg2 hnx.size (fun j hj => by cases hj; omega)
      obtain ⟨g, hlook, hga⟩ := look_ok (HA.out.next hnx2) x hxl
      have HAT : Hid _ := hat'
      have HGA : Hid _ := hga
      have HLE : Hid _ := hlt
      have HEN : Hid _ := hat
      clear hat hy hat' hga hv hkey hs2 hg2 hlt
      have HH : Hid (Maps.has D (.string x.data.toList) = true) := Maps.has_true_of_atKey HEN.out
      cases hhas : Maps.has Da (.string x.data.toList)
      · rw [hhas] at hlook
        have HQ : Hid _ := hhas
        clear hhas
        go_wp2
        go_ret
        refine ⟨false, rfl, ⟨(fun h => by cases h), fun hs => ?_⟩, hnx2⟩
        have h1 := (hs _ HH.out).1
        rw [HQ.out] at h1
        cases h1
      · rw [hhas] at hlook
        have HQ : Hid _ := hhas
        clear hhas
        by_cases heq : g.data.toList = c.data.toList
        · have hne := str_same heq
          have HE : Hid _ := heq
          clear heq
          go_wp2
          go_roundw
          case rel => exact ⟨_, cnt2, hrg2, met_step HD.out HQ.out (HGA.out.trans ((congrArg (fun l => DataW.lit (Lit.string l)) HE.out).trans HAT.out.symm)), hnx2⟩
          case measure => rw [hrg2.left_eq, hrg.left_eq]; exact HLE.out
        · have hne := str_neq heq
          have HE : Hid _ := heq
          clear heq
          go_wp2
          go_ret
          refine ⟨false, rfl, ⟨(fun h => by cases h), fun hs => ?_⟩, hnx2⟩
          have h1 := (hs _ HH.out).2
          rw [HGA.out, HAT.out] at h1
          simp only [DataW.lit.injEq, Lit.string.injEq] at h1
          exact absurd h1 HE.out

set_option maxRecDepth 100000 in
theorem selects_nil {H : Type} (kind : Int) (name ns : ByteArray) (tags arg : Value) (Da : DataW H) (w : World) :
    Calls Try.prog 7 #[.agg #[.int .i64 kind, .string name, .string ns, tags, .map none], arg] w fun e w' => ∃ x, e = .returned (.bool x) ∧ (x = true ↔ Sel (.map []) Da) ∧ Below w.heap.size w w' := by
  have hrg := fun w1 => run_range_nilMap (P := Try.prog) w1 22 9 9 Try.underlying22
  have hnx := fun ty => run_next_nilMap (P := Try.prog) (w.alloc (.cells #[.int .i64 kind, .string name, .string ns, tags, .map none] 31)) ty 0 0 #[]
  simp only [World.size_alloc] at hnx
  go_enter Try.func7, Try.ntmps7
  go_wp2
  refine wp_loop_rounds 1 ?_
  rw [rounds_succ]
  go_wp2
  go_ret
  exact ⟨true, rfl, ⟨(fun _ kl hk => by cases hk), fun _ => rfl⟩, ((Below.refl _ _).alloc (Nat.le_refl _) _).alloc (by simp) _⟩

theorem selects_any {H : Type} (kind : Int) (name ns : ByteArray) (tags imp arg : Value) (D Da : DataW H) (w : World) (himp : MapIs w imp D) (harg : MapIs w arg Da) :
    Calls Try.prog 7 #[.agg #[.int .i64 kind, .string name, .string ns, tags, imp], arg] w fun e w' => ∃ x, e = .returned (.bool x) ∧ (x = true ↔ Sel D Da) ∧ Below w.heap.size w w' := by
  rcases himp with ⟨rfl, rfl⟩ | ⟨b, n, rfl, hown⟩
  · exact selects_nil kind name ns tags arg Da w
  · exact selects_some kind name ns tags arg b n D Da w hown harg

theorem zzsel_any {H : Type} (kind : Int) (name ns : ByteArray) (tags imp arg : Option Nat) (D Da : DataW H) (w : World) (himp : MapIs w (.map imp) D) (harg : MapIs w (.map arg) Da) :
    Calls Try.prog 6 #[.int .i64 kind, .string name, .string ns, .map tags, .map imp, .map arg] w fun e w' => ∃ x, e = .returned (.bool x) ∧ (x = true ↔ Sel D Da) ∧ Below w.heap.size w w' := by
  have HI : Hid (MapIs w (.map imp) D) := himp
  have HA : Hid (MapIs w (.map arg) Da) := harg
  clear himp harg
  go_enter Try.func6, Try.ntmps6
  go_wp2_with (go_at_call 7; refine (selects_any kind name ns (.map tags) (.map imp) (.map arg) D Da w HI.out HA.out).mono ?_; rintro e w' ⟨x, rfl, hx, hb⟩)
  go_ret
  exact ⟨x, rfl, hx, hb⟩

end Go.Proofs.Qxb6617744a
