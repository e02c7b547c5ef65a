import Derived.Test.Qxb6617744aRows
import Derived.Test.Qxb6617744aOrder
import Derived.WalkKit
import Derived.ProofKit
import Derived.OpenShut
import Derived.ShutString
import Derived.ChangeOld
import Derived.Below
namespace Go.Proofs.Qxb6617744a.fnSelectsIsSubmapOrder
open Go.ChangeShapes Go.WideShapes Go.ChangeAt Go.RowKit
open Go.ChangeMaps (open_string shut_string)
open Go.WideElems (open_map)
set_option linter.unusedVariables false

theorem own : ownKnob Try.prog.godebug = none := by kernel_rfl
theorem laidOut : laidOutB Try.prog = true := by kernel_rfl

theorem mapIs_of {H : Type} {enc : TypeId × Value → H} {W : World} {a : Option Nat} {d : DataW H} {p : List MemPlace} (h : DataW.Trod enc Try.prog W 0 (fun _ => true) true 22 (.map a) d p) : ∃ D : DataW H, MapIs W (.map a) D := by
  obtain ⟨fuel, hf⟩ := h
  rcases open_map Try.underlying22 hf with ⟨hcs, _⟩ | ⟨bm, es, clock, m, rfl, hcs, hb, _, F, _⟩
  · simp [Value.cells] at hcs
    subst hcs
    exact ⟨_, .inl ⟨rfl, rfl⟩⟩
  · simp [Value.cells] at hcs
    subst hcs
    exact ⟨_, .inr ⟨_, _, rfl, World.ownsMap_of_fit (R := plainElem Try.prog 9) hb F (fun x _ z hz => elemAt_plainElem_string Try.underlying9 hz)⟩⟩

theorem walk {H : Type} (kind : Int) (name ns : ByteArray) (o a b c : Option Nat) (Do A B C : DataW H) (w : World) (hn : name.size ≤ maxLen) (hs : ns.size ≤ maxLen)
    (ho : MapIs w (.map o) Do) (ha : MapIs w (.map a) A) (hb : MapIs w (.map b) B) (hc : MapIs w (.map c) C) :
    Calls Try.prog 4 #[.int .i64 kind, .string name, .string ns, .map o, .map a, .map b, .map c] w fun e w' => e = .returned (.bool true) ∧ Below w.heap.size w w' := by
  by_cases h1 : 524288 < name.size
  · exact order_g1 kind name ns o a b c w h1 hn
  · by_cases h2 : 524288 < ns.size
    · exact order_g2 kind name ns o a b c w (by omega) h2 hs
    · by_cases h3 : 65536 < Maps.size Do ∨ 65536 < Maps.size A ∨ 65536 < Maps.size B ∨ 65536 < Maps.size C
      · exact order_g3 kind name ns o a b c Do A B C w (by omega) (by omega) ho ha hb hc h3
      · exact order_main kind name ns o a b c Do A B C w (by omega) (by omega) ho ha hb hc (by omega) (by omega) (by omega) (by omega)

set_option maxRecDepth 100000 in
theorem lifted (os : Os) (started : os.Started) (H : Type) (enc : TypeId × Value → H) :
    ReturnsInHanded {} Try.checked os 4 .any (Rows.fnSelectsIsSubmapOrderSpec.pre6 enc Try.prog Try.f4 Rows.fnSelectsIsSubmapOrderRow.domain false) (Rows.fnSelectsIsSubmapOrderSpec.post enc Try.prog Try.f4 false true false false) := by
  refine returnsInHanded_of_change (C := Try.checked) own started (by kernel_rfl) Try.func4
    (ChangeSpec.witness6 (enc := enc) (C := Try.checked) false ⟨#[], #[.int .i64 0, .string ByteArray.empty, .string ByteArray.empty, .map none, .map none, .map none, .map none], []⟩ 8 (by kernel_rfl) (by kernel_rfl) (by kernel_rfl) (by kernel_rfl)) ?_
  intro W base args ds gs before hval0 hW hcnd _
  have hval : ∀ (j : Nat) t v, Try.f4.params[j]? = some t → args[j]? = some v → Value.okWide Try.prog W .any base t v := hval0
  have hW' := hW
  obtain ⟨p, q, hA0, hV, rfl, hfz, hnd⟩ := hW
  have hA : DataW.TrodAll enc Try.prog W 0 (fun _ => true) true Try.f4.params.toList args.toList ds p := hA0
  rw [Try.params4] at hA hval
  obtain ⟨v0, vs0, d0, ds0, p0, q0, hargs, rfl, rfl, h0, r0⟩ := trodAll_cons hA
  obtain ⟨v1, vs1, d1, ds1, p1, q1, rfl, rfl, rfl, h1, r1⟩ := trodAll_cons r0
  obtain ⟨v2, vs2, d2, ds2, p2, q2, rfl, rfl, rfl, h2, r2⟩ := trodAll_cons r1
  obtain ⟨v3, vs3, d3, ds3, p3, q3, rfl, rfl, rfl, h3, r3⟩ := trodAll_cons r2
  obtain ⟨v4, vs4, d4, ds4, p4, q4, rfl, rfl, rfl, h4, r4⟩ := trodAll_cons r3
  obtain ⟨v5, vs5, d5, ds5, p5, q5, rfl, rfl, rfl, h5, r5⟩ := trodAll_cons r4
  obtain ⟨v6, vs6, d6, ds6, p6, q6, rfl, rfl, rfl, h6, r6⟩ := trodAll_cons r5
  obtain ⟨rfl, rfl, rfl⟩ := trodAll_nil r6
  obtain rfl : args = #[v0, v1, v2, v3, v4, v5, v6] := by cases args; simp_all
  obtain ⟨rfl, rfl⟩ := trodVars_none hV
  obtain ⟨a0, rfl, rfl, rfl, w0⟩ := open_int Try.underlying3 (hval 0 3 v0 rfl rfl) h0
  obtain ⟨a1, rfl, rfl, rfl, w1⟩ := open_string Try.underlying9 (hval 1 9 v1 rfl rfl) h1
  obtain ⟨a2, rfl, rfl, rfl, w2⟩ := open_string Try.underlying9 (hval 2 9 v2 rfl rfl) h2
  obtain ⟨a3, rfl⟩ := okWide_map Try.underlying22 (hval 3 22 v3 rfl rfl)
  have k3 := h3
  have lt3 : ∀ x ∈ p3, x.block < W.heap.size := by obtain ⟨m, hm⟩ := k3; exact DataW.trod_lt m _ _ _ hm
  obtain ⟨D3, m3⟩ := mapIs_of h3
  obtain ⟨a4, rfl⟩ := okWide_map Try.underlying22 (hval 4 22 v4 rfl rfl)
  have k4 := h4
  have lt4 : ∀ x ∈ p4, x.block < W.heap.size := by obtain ⟨m, hm⟩ := k4; exact DataW.trod_lt m _ _ _ hm
  obtain ⟨D4, m4⟩ := mapIs_of h4
  obtain ⟨a5, rfl⟩ := okWide_map Try.underlying22 (hval 5 22 v5 rfl rfl)
  have k5 := h5
  have lt5 : ∀ x ∈ p5, x.block < W.heap.size := by obtain ⟨m, hm⟩ := k5; exact DataW.trod_lt m _ _ _ hm
  obtain ⟨D5, m5⟩ := mapIs_of h5
  obtain ⟨a6, rfl⟩ := okWide_map Try.underlying22 (hval 6 22 v6 rfl rfl)
  have k6 := h6
  have lt6 : ∀ x ∈ p6, x.block < W.heap.size := by obtain ⟨m, hm⟩ := k6; exact DataW.trod_lt m _ _ _ hm
  obtain ⟨D6, m6⟩ := mapIs_of h6
  clear hA0 hval0
  refine (walk a0 a1 a2 a3 a4 a5 a6 D3 D4 D5 D6 W w1 w2 m3 m4 m5 m6).mono fun e W' ⟨he, bel⟩ => ?_
  subst he
  exact ⟨_, rfl, _, _, _, [], _, [], hW', trodAll_mk1 (shut_bool Try.underlying4 _), (trodAll_cons_mk (shut_int Try.underlying3 w0) (trodAll_cons_mk (shut_string Try.underlying9 w1) (trodAll_cons_mk (shut_string Try.underlying9 w2) (trodAll_cons_mk (Below.trod laidOut (by kernel_rfl) (of_decide_eq_true (by kernel_rfl)) k3 bel lt3) (trodAll_cons_mk (Below.trod laidOut (by kernel_rfl) (of_decide_eq_true (by kernel_rfl)) k4 bel lt4) (trodAll_cons_mk (Below.trod laidOut (by kernel_rfl) (of_decide_eq_true (by kernel_rfl)) k5 bel lt5) (trodAll_cons_mk (Below.trod laidOut (by kernel_rfl) (of_decide_eq_true (by kernel_rfl)) k6 bel lt6) trodAll_mk0))))))), rfl, bel.frame _, fun h => by cases h⟩

theorem over : Rows.fnSelectsIsSubmapOrderRow.holds Try.pinned (OpenSpec.ofChange Rows.fnSelectsIsSubmapOrderSpec) :=
  OpenClaim.holds_of_wide 4 Try.f4 rfl rfl rfl rfl rfl rfl rfl ⟨rfl, rfl, rfl, rfl, rfl⟩ rfl rfl rfl rfl rfl (by kernel_rfl) Try.func4 (by kernel_rfl)
    (of_decide_eq_true (by kernel_rfl)) (by unfold Func.isWrapper; first | (rw [if_pos (by decide +kernel)]; kernel_rfl) | (rw [if_neg (by decide +kernel)]; exact ⟨rfl, rfl⟩))
    (fun os started H enc _ => lifted os started H enc)

/-- THE STATEMENT. -/
theorem proved : Rows.FnSelectsIsSubmapOrderSaid := over
end Go.Proofs.Qxb6617744a.fnSelectsIsSubmapOrder
