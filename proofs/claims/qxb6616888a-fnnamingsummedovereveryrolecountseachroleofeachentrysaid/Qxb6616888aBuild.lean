import Derived.Test.Qxb6616888aBytes
import Derived.Deep.RegionHeld3
import Derived.Deep.DrawnRows
namespace Go.Proofs.Qxb6616888a
open Go.RowKit Go.ChangeMaps

abbrev E4 := Nat × Nat × Nat × Nat
abbrev E3 := Nat × Nat × Nat
def ent4 (e : E4) : Ent := (e.1, e.2.1, e.2.2.1, some e.2.2.2)
def ent3 (e : E3) : Ent := (e.1, e.2.1, e.2.2, none)
def insAll (l : List Ent) : List Ent := l.foldl ins []
theorem insAll_snoc (l : List Ent) (e : Ent) : insAll (l ++ [e]) = ins (insAll l) e := by simp [insAll, List.foldl_append]
theorem mem_ins {E : List Ent} {e x : Ent} (h : x ∈ ins E e) : x ∈ E ∨ x = e := by
  unfold ins at h
  split at h
  · exact .inl h
  · simpa using h
theorem mem_foldl_ins : ∀ (l E : List Ent) {x : Ent}, x ∈ l.foldl ins E → x ∈ E ∨ x ∈ l
  | [], _, _, h => .inl h
  | e :: r, E, x, h => by
    rcases mem_foldl_ins r (ins E e) h with h | h
    · rcases mem_ins h with h | h
      · exact .inl h
      · exact .inr (by simp [h])
    · exact .inr (by simp [h])
theorem mem_insAll {l : List Ent} {x : Ent} (h : x ∈ insAll l) : x ∈ l := by
  rcases mem_foldl_ins l [] h with h | h
  · simp at h
  · exact h

def Ok4 (e : E4) : Prop := e.1 < 256 ∧ e.2.1 < 256 ∧ e.2.2.1 < 256 ∧ e.2.2.2 < 256
def Ok3 (e : E3) : Prop := e.1 < 256 ∧ e.2.1 < 256 ∧ e.2.2 < 256
theorem ok_ent4 {e : E4} (h : Ok4 e) : EntOk (ent4 e) := ⟨h.1, h.2.1, h.2.2.1, fun c hc => by cases hc; exact h.2.2.2⟩
theorem ok_ent3 {e : E3} (h : Ok3 e) : EntOk (ent3 e) := ⟨h.1, h.2.1, h.2.2, fun c hc => by cases hc⟩

/-- Four bytes lie at y. -/
def Row4 (w : World) (y : Addr) (e : E4) : Prop := w.cell? y = some (.int .u8 e.1) ∧ w.cell? ⟨y.block, y.off + 1, none⟩ = some (.int .u8 e.2.1) ∧ w.cell? ⟨y.block, y.off + 2, none⟩ = some (.int .u8 e.2.2.1) ∧ w.cell? ⟨y.block, y.off + 3, none⟩ = some (.int .u8 e.2.2.2) ∧ Ok4 e
def Row3 (w : World) (y : Addr) (e : E3) : Prop := w.cell? y = some (.int .u8 e.1) ∧ w.cell? ⟨y.block, y.off + 1, none⟩ = some (.int .u8 e.2.1) ∧ w.cell? ⟨y.block, y.off + 2, none⟩ = some (.int .u8 e.2.2) ∧ Ok3 e
def IsRows4 (w : World) (a : Option Addr) (l : List E4) : Prop := l = [] ∨ ∃ x, a = some x ∧ ∀ (i : Nat) (e : E4), l[i]? = some e → Row4 w (x.add (i * 4)) e
def IsRows3 (w : World) (a : Option Addr) (l : List E3) : Prop := l = [] ∨ ∃ x, a = some x ∧ ∀ (i : Nat) (e : E3), l[i]? = some e → Row3 w (x.add (i * 3)) e

theorem IsRows4.at {B : Nat} {w w' : World} {a : Option Addr} {l : List E4} (h : IsRows4 w a l) {i : Nat} (hi : i < l.length) (hb : Below B w w') (hB : w.heap.size ≤ B) : ∃ x e, a = some x ∧ l[i]? = some e ∧ Row4 w' (x.add (i * 4)) e := by
  rcases h with rfl | ⟨x, rfl, h⟩
  · simp at hi
  · refine ⟨x, l[i], rfl, List.getElem?_eq_getElem hi, ?_⟩
    obtain ⟨h0, h1, h2, h3, h4⟩ := h i _ (List.getElem?_eq_getElem hi)
    have hl := World.block_lt_of_cell? w _ h0
    refine ⟨?_, ?_, ?_, ?_, h4⟩
    · rw [hb.cell (p := x.add (i * 4)) (by omega)]; exact h0
    · rw [hb.cell (by show (x.add (i * 4)).block < B; omega)]; exact h1
    · rw [hb.cell (by show (x.add (i * 4)).block < B; omega)]; exact h2
    · rw [hb.cell (by show (x.add (i * 4)).block < B; omega)]; exact h3
theorem IsRows3.at {B : Nat} {w w' : World} {a : Option Addr} {l : List E3} (h : IsRows3 w a l) {i : Nat} (hi : i < l.length) (hb : Below B w w') (hB : w.heap.size ≤ B) : ∃ x e, a = some x ∧ l[i]? = some e ∧ Row3 w' (x.add (i * 3)) e := by
  rcases h with rfl | ⟨x, rfl, h⟩
  · simp at hi
  · refine ⟨x, l[i], rfl, List.getElem?_eq_getElem hi, ?_⟩
    obtain ⟨h0, h1, h2, h4⟩ := h i _ (List.getElem?_eq_getElem hi)
    have hl := World.block_lt_of_cell? w _ h0
    refine ⟨?_, ?_, ?_, h4⟩
    · rw [hb.cell (p := x.add (i * 3)) (by omega)]; exact h0
    · rw [hb.cell (by show (x.add (i * 3)).block < B; omega)]; exact h1
    · rw [hb.cell (by show (x.add (i * 3)).block < B; omega)]; exact h2

theorem take_map_snoc {α β : Type} (f : α → β) (l : List α) (k : Nat) (e : α) (h : l[k]? = some e) : (l.take (k + 1)).map f = (l.take k).map f ++ [f e] := by
  have hk := (List.getElem?_eq_some_iff.1 h).1
  rw [List.take_succ_eq_append_getElem hk, List.map_append]
  have := (List.getElem?_eq_some_iff.1 h).2
  simp [this]

theorem PolAt.grown {w w' : World} {p A R : Nat} {X : Option Nat} (h : PolAt w p A R) (hg : w.grownBy w' X) (hX : ∀ x, X = some x → x ≠ p) : PolAt w' p A R := by
  obtain ⟨a, b, c, hb⟩ := h
  exact ⟨a, b, c, by rw [hg.block p (Array.getElem?_eq_some_iff.1 hb).1 (fun e => hX p e.symm rfl)]; exact hb⟩

/-- What the loops carry: A = N + 3, R = N + 4, the policy at N + 5, all that follows from N + 6 on. -/
structure Pol (w wr : World) (N : Nat) (ρ : Nat → Nat) (EA ER : List Ent) : Prop where
  at_ : PolAt wr (N + 5) (N + 3) (N + 4)
  a : PolMap wr (N + 3) (N + 6) ρ EA
  r : PolMap wr (N + 4) (N + 6) ρ ER
  below : Below N w wr
  size : N + 6 ≤ wr.heap.size

theorem Pol.next {w wr w' : World} {N : Nat} {ρ : Nat → Nat} {EA ER : List Ent} (h : Pol w wr N ρ EA ER) (hg : wr.grownBy w' none) : Pol w w' N ρ EA ER :=
  ⟨h.at_.grown hg (fun x hx => by cases hx), h.a.grown hg (fun x hx => by cases hx), h.r.grown hg (fun x hx => by cases hx), h.below.grown hg (Nat.le_trans (by omega) h.size) (fun x hx => by cases hx), Nat.le_trans h.size hg.size⟩
theorem Pol.putA {w wr w' : World} {N : Nat} {ρ : Nat → Nat} {EA ER EA' : List Ent} (h : Pol w wr N ρ EA ER) (hg : wr.grownBy w' (some (N + 3))) (hm : PolMap w' (N + 3) (N + 6) ρ EA') : Pol w w' N ρ EA' ER :=
  ⟨h.at_.grown hg (fun x hx => by cases hx; omega), hm, h.r.grown hg (fun x hx => by cases hx; omega), h.below.grown hg (Nat.le_trans (by omega) h.size) (fun x hx => by cases hx; omega), Nat.le_trans h.size hg.size⟩
theorem Pol.putR {w wr w' : World} {N : Nat} {ρ : Nat → Nat} {EA ER ER' : List Ent} (h : Pol w wr N ρ EA ER) (hg : wr.grownBy w' (some (N + 4))) (hm : PolMap w' (N + 4) (N + 6) ρ ER') : Pol w w' N ρ EA ER' :=
  ⟨h.at_.grown hg (fun x hx => by cases hx; omega), h.a.grown hg (fun x hx => by cases hx; omega), hm, h.below.grown hg (Nat.le_trans (by omega) h.size) (fun x hx => by cases hx; omega), Nat.le_trans h.size hg.size⟩

theorem undrew {w w' : World} (h : Below w.drew.heap.size w.drew w') : Below w.heap.size w w' := ⟨h.os, h.tape, h.output, h.size, h.block⟩

/-- The slice of roles. -/
def RoleCells (w : World) (g : Nat) (ρ : Nat → Nat) : Prop := ∀ j, j < 256 → w.cell? ⟨g, j, none⟩ = some (rp (ρ j))
theorem RoleCells.below {B g : Nat} {w w' : World} {ρ : Nat → Nat} (h : RoleCells w g ρ) (hb : Below B w w') (hB : w.heap.size ≤ B) : RoleCells w' g ρ := fun j hj => by
  have h1 := h j hj
  have h2 := World.block_lt_of_cell? w _ h1
  rw [hb.cell (p := ⟨g, j, none⟩) (by show g < B; have : g < w.heap.size := h2; omega)]
  exact h1

set_option maxRecDepth 100000 in
set_option maxHeartbeats 4000000 in
theorem policy_any (g n c0 m c1 : Nat) (a0 a1 : Option Addr) (ρ : Nat → Nat) (la : List E4) (lr : List E3) (w : World) (hrc : RoleCells w g ρ) (hr : Roles w ρ) (ha : IsRows4 w a0 la) (hb : IsRows3 w a1 lr)
    (hla : la.length = n) (hlr : lr.length = m) (hn : n ≤ 4096) (hm : m ≤ 4096) :
    Calls Try.prog 6 #[.slice (some ⟨g, 0, none⟩) 256 256, .slice a0 n c0, .slice a1 m c1] w fun e w' => e = .returned (rp (w.heap.size + 5)) ∧ Pol w w' w.heap.size ρ (insAll (la.map ent4)) (insAll (lr.map ent3)) := by
  have HRC := hide hrc
  have HRO := hide hr
  have HA := hide ha
  have HB := hide hb
  have HLA := hide hla
  have HLR := hide hlr
  clear hrc hr ha hb hla hlr
  go_enter Try.func6, Try.ntmps6
  go_wp2_with fail
  refine (newPolicy_any w).mono ?_
  rintro e w1 ⟨rfl, hpol, hvA, hvR, hb1, hs1⟩
  have HP1 : Hid (Pol w w1 w.heap.size ρ [] []) := ⟨hpol, ⟨[], hvA, rfl, fun i p e hp => by simp at hp⟩, ⟨[], hvR, rfl, fun i p e hp => by simp at hp⟩, hb1, by omega⟩
  clear hpol hvA hvR hb1 hs1
  go_wp2_with fail
  go_loopw [8] (fun i wr => ∃ k : Nat, k ≤ n ∧ i = .int .i64 k ∧ Hid (Pol w wr w.heap.size ρ (insAll ((la.take k).map ent4)) [])) (fun i _ => n - (intOf i).toNat)
  case atStart => exact ⟨0, Nat.zero_le _, rfl, HP1⟩
  case round =>
    clear HP1
    obtain ⟨k, hk, rfl, HP⟩ := hrel
    by_cases hlt : k < n
    · obtain ⟨x, ⟨ea, el, eh, ec⟩, rfl, hle, r0, r1, r2, r3, rok⟩ := HA.out.at (i := k) (by rw [HLA.out]; exact hlt) HP.out.below (Nat.le_refl _)
      have HLE := hide hle
      have HOK := hide rok
      simp only [Ok4] at rok
      obtain ⟨o0, o1, o2, o3⟩ := rok
      clear hle
      simp only at r0 r1 r2 r3
      have hlen : (decS ec).size ≤ 3 := dec_len ec
      have hadd := fun (W : World) => run_string_add_sum (P := Try.prog) W ⟨#[114]⟩ (decS ec) (by have h9 : (⟨#[114]⟩ : ByteArray).size = 1 := rfl; omega)
      have HBW : Hid (wr.grownBy (wr.alloc (.cells #[.int .u8 ea, .int .u8 el, .int .u8 eh, .int .u8 ec] 30)) none) := World.grownBy_alloc wr _ none
      have z0 : (wr.alloc (.cells #[.int .u8 ea, .int .u8 el, .int .u8 eh, .int .u8 ec] 30)).cell? ⟨wr.heap.size, 0, none⟩ = some (.int .u8 ea) := cell_new wr _ 30 0
      have z1 : (wr.alloc (.cells #[.int .u8 ea, .int .u8 el, .int .u8 eh, .int .u8 ec] 30)).cell? ⟨wr.heap.size, 1, none⟩ = some (.int .u8 el) := cell_new wr _ 30 1
      have z2 : (wr.alloc (.cells #[.int .u8 ea, .int .u8 el, .int .u8 eh, .int .u8 ec] 30)).cell? ⟨wr.heap.size, 2, none⟩ = some (.int .u8 eh) := cell_new wr _ 30 2
      have z3 : (wr.alloc (.cells #[.int .u8 ea, .int .u8 el, .int .u8 eh, .int .u8 ec] 30)).cell? ⟨wr.heap.size, 3, none⟩ = some (.int .u8 ec) := cell_new wr _ 30 3
      have Z0 := hide z0
      have Z1 := hide z1
      have Z2 := hide z2
      have Z3 := hide z3
      clear z0 z1 z2 z3
      go_wp2
      clear r0 r1 r2 r3
      generalize wr.alloc (.cells #[.int .u8 ea, .int .u8 el, .int .u8 eh, .int .u8 ec] 30) = W0 at *
      have HPW : Hid (Pol w W0 w.heap.size ρ (insAll ((la.take k).map ent4)) []) := HP.out.next HBW.out
      have hrcW := HRC.out.below HPW.out.below (Nat.le_refl _)
      have HROW := hide (HRO.out.below HPW.out.below (Nat.le_refl _))
      have y0 := hrcW ea o0
      have y1 := hrcW el o1
      have y2 := hrcW eh o2
      have y3 := hrcW ec o3
      have z0 := Z0.out
      have z1 := Z1.out
      have z2 := Z2.out
      have z3 := Z3.out
      clear hrcW Z0 Z1 Z2 Z3 HBW
      have i0 : (0 : Int) ≤ (ea : Int) ∧ (ea : Int) < 256 := by omega
      have i1 : (0 : Int) ≤ (el : Int) ∧ (el : Int) < 256 := by omega
      have i2 : (0 : Int) ≤ (eh : Int) ∧ (eh : Int) < 256 := by omega
      have i3 : (0 : Int) ≤ (ec : Int) ∧ (ec : Int) < 256 := by omega
      have hwrap : IntKind.i64.wrap (ec : Int) = (ec : Int) := by simp only [IntKind.wrap_i64]; omega
      have HEok : Hid (∀ x ∈ insAll ((la.take k).map ent4), EntOk x) := fun x hx => by
        obtain ⟨e, he, rfl⟩ := List.mem_map.1 (mem_insAll hx)
        obtain ⟨j, hj⟩ := List.getElem?_of_mem (List.mem_of_mem_take he)
        have hjl := (List.getElem?_eq_some_iff.1 hj).1
        obtain ⟨_, e', _, he', _, _, _, _, hok⟩ := HA.out.at hjl (Below.refl w.heap.size w) (Nat.le_refl _)
        rw [hj] at he'
        cases he'
        exact ok_ent4 hok
      generalize hEq : insAll ((la.take k).map ent4) = E at *
      have HEQ := hide hEq
      clear hEq
      have HPX : ∀ {W : World}, Below W0.drew.heap.size W0.drew W → Pol w W w.heap.size ρ E [] := fun h => HPW.out.next (below_grown (undrew h))
      have HRX : ∀ {W : World}, Below W0.drew.heap.size W0.drew W → Roles W ρ := fun h => HROW.out.below (undrew h) (Nat.le_refl _)
      have hgl : g < w.heap.size := World.block_lt_of_cell? w _ (HRC.out 0 (by omega))
      have hwl : w.heap.size + 6 ≤ wr.heap.size := HP.out.size
      go_region_held3 (fun W => W.cell? ⟨wr.heap.size, 0, none⟩ = some (.int .u8 ea) ∧ W.cell? ⟨wr.heap.size, 1, none⟩ = some (.int .u8 el) ∧ W.cell? ⟨wr.heap.size, 2, none⟩ = some (.int .u8 eh) ∧ W.cell? ⟨wr.heap.size, 3, none⟩ = some (.int .u8 ec) ∧ W.cell? ⟨g, ea, none⟩ = some (rp (ρ ea)) ∧ W.cell? ⟨g, el, none⟩ = some (rp (ρ el)) ∧ W.cell? ⟨g, eh, none⟩ = some (rp (ρ eh)) ∧ W.cell? ⟨g, ec, none⟩ = some (rp (ρ ec))) (go_keep)
        (first
          | (go_at_call 10; refine (itoa_any ec _ o3).mono ?_; rintro e W1 ⟨rfl, hbI⟩; have t0 := cell_later hbI (by exact z0); have t1 := cell_later hbI (by exact z1); have t2 := cell_later hbI (by exact z2); have t3 := cell_later hbI (by exact z3); have t4 := cell_later hbI (by exact y0); have t5 := cell_later hbI (by exact y1); have t6 := cell_later hbI (by exact y2); have t7 := cell_later hbI (by exact y3))
          | (go_at_call 12; refine (putAssign_any (w.heap.size + 5) (w.heap.size + 3) (w.heap.size + 4) (w.heap.size + 6) ea el eh ec ρ E _ _ (HPX hbI).at_ (HPX hbI).a (HRX hbI) HEok.out (ok_ent4 HOK.out) rfl (by omega) (HPX hbI).size).mono ?_; rintro e W2 ⟨rfl, hg, hm2⟩; have s0 := hg.cell t0 (by simp; omega); have s1 := hg.cell t1 (by simp; omega); have s2 := hg.cell t2 (by simp; omega); have s3 := hg.cell t3 (by simp; omega); have s4 := hg.cell t4 (by simp; omega); have s5 := hg.cell t5 (by simp; omega); have s6 := hg.cell t6 (by simp; omega); have s7 := hg.cell t7 (by simp; omega)))
      have HP2 : Hid (Pol w W2 w.heap.size ρ (insAll ((la.take (k + 1)).map ent4)) []) := by
        rw [Hid, take_map_snoc ent4 la k _ HLE.out, insAll_snoc, HEQ.out]
        exact (HPX hbI).putA hg hm2
      clear s0 s1 s2 s3 s4 s5 s6 s7 hg hm2 t0 t1 t2 t3 t4 t5 t6 t7 hbI z0 z1 z2 z3 y0 y1 y2 y3 HPX HRX hadd hwrap hlen
      go_wp2
      go_roundw
      case rel => exact ⟨k + 1, by omega, by go_num, HP2⟩
      case measure => simp [intOf]; omega
    · obtain rfl : k = n := by omega
      have HP0 : Hid (Pol w wr w.heap.size ρ (insAll (la.map ent4)) []) := by
        have h9 := HP.out
        rw [List.take_of_length_le (by rw [HLA.out]; exact Nat.le_refl _)] at h9
        exact h9
      generalize hEAq : insAll (la.map ent4) = EA at *
      have HEAQ := hide hEAq
      clear hEAq HP
      go_wp2
      clear hlt hk
      go_loopw [10] (fun i wr => ∃ q : Nat, q ≤ m ∧ i = .int .i64 q ∧ Hid (Pol w wr w.heap.size ρ EA (insAll ((lr.take q).map ent3)))) (fun i _ => m - (intOf i).toNat)
      case atStart => exact ⟨0, Nat.zero_le _, rfl, HP0⟩
      case round =>
        clear HP0
        obtain ⟨q, hq, rfl, HP⟩ := hrel
        by_cases hlt : q < m
        · obtain ⟨x, ⟨ea, el, eh⟩, rfl, hle, r0, r1, r2, rok⟩ := HB.out.at (i := q) (by rw [HLR.out]; exact hlt) HP.out.below (Nat.le_refl _)
          have HLE := hide hle
          have HOK := hide rok
          simp only [Ok3] at rok
          obtain ⟨o0, o1, o2⟩ := rok
          clear hle
          simp only at r0 r1 r2
          have HBW : Hid (wr.grownBy (wr.alloc (.cells #[.int .u8 ea, .int .u8 el, .int .u8 eh] 33)) none) := World.grownBy_alloc wr _ none
          have Z0 : Hid ((wr.alloc (.cells #[.int .u8 ea, .int .u8 el, .int .u8 eh] 33)).cell? ⟨wr.heap.size, 0, none⟩ = some (.int .u8 ea)) := cell_new wr _ 33 0
          have Z1 : Hid ((wr.alloc (.cells #[.int .u8 ea, .int .u8 el, .int .u8 eh] 33)).cell? ⟨wr.heap.size, 1, none⟩ = some (.int .u8 el)) := cell_new wr _ 33 1
          have Z2 : Hid ((wr.alloc (.cells #[.int .u8 ea, .int .u8 el, .int .u8 eh] 33)).cell? ⟨wr.heap.size, 2, none⟩ = some (.int .u8 eh)) := cell_new wr _ 33 2
          go_wp2
          clear r0 r1 r2
          generalize wr.alloc (.cells #[.int .u8 ea, .int .u8 el, .int .u8 eh] 33) = W0 at *
          have HPW : Hid (Pol w W0 w.heap.size ρ EA (insAll ((lr.take q).map ent3))) := HP.out.next HBW.out
          have hrcW := HRC.out.below HPW.out.below (Nat.le_refl _)
          have HROW := hide (HRO.out.below HPW.out.below (Nat.le_refl _))
          have y0 := hrcW ea o0
          have y1 := hrcW el o1
          have y2 := hrcW eh o2
          have z0 := Z0.out
          have z1 := Z1.out
          have z2 := Z2.out
          clear hrcW Z0 Z1 Z2 HBW
          have i0 : (0 : Int) ≤ (ea : Int) ∧ (ea : Int) < 256 := by omega
          have i1 : (0 : Int) ≤ (el : Int) ∧ (el : Int) < 256 := by omega
          have i2 : (0 : Int) ≤ (eh : Int) ∧ (eh : Int) < 256 := by omega
          have HEok : Hid (∀ x ∈ insAll ((lr.take q).map ent3), EntOk x) := fun x hx => by
            obtain ⟨e, he, rfl⟩ := List.mem_map.1 (mem_insAll hx)
            obtain ⟨j, hj⟩ := List.getElem?_of_mem (List.mem_of_mem_take he)
            have hjl := (List.getElem?_eq_some_iff.1 hj).1
            obtain ⟨_, e', _, he', _, _, _, hok⟩ := HB.out.at hjl (Below.refl w.heap.size w) (Nat.le_refl _)
            rw [hj] at he'
            cases he'
            exact ok_ent3 hok
          generalize hEq : insAll ((lr.take q).map ent3) = E at *
          have HEQ := hide hEq
          clear hEq
          have hgl : g < w.heap.size := World.block_lt_of_cell? w _ (HRC.out 0 (by omega))
          have hwl : w.heap.size + 6 ≤ wr.heap.size := HP.out.size
          have HPD : Hid (Pol w W0.drew w.heap.size ρ EA E) := HPW.out.next ⟨rfl, rfl, rfl, Nat.le_refl _, fun _ _ _ => rfl⟩
          have HRD : Hid (Roles W0.drew ρ) := HROW.out.below (Below.refl W0.heap.size W0).drew (Nat.le_refl _)
          go_region_held3 (fun W => W.cell? ⟨wr.heap.size, 0, none⟩ = some (.int .u8 ea) ∧ W.cell? ⟨wr.heap.size, 1, none⟩ = some (.int .u8 el) ∧ W.cell? ⟨wr.heap.size, 2, none⟩ = some (.int .u8 eh) ∧ W.cell? ⟨g, ea, none⟩ = some (rp (ρ ea)) ∧ W.cell? ⟨g, el, none⟩ = some (rp (ρ el)) ∧ W.cell? ⟨g, eh, none⟩ = some (rp (ρ eh))) (go_keep)
            (first
              | (go_at_call 13; refine (putRevoke_any (w.heap.size + 5) (w.heap.size + 3) (w.heap.size + 4) (w.heap.size + 6) ea el eh ρ E _ HPD.out.at_ HPD.out.r HRD.out HEok.out (ok_ent3 HOK.out) (by omega) HPD.out.size).mono ?_; rintro e W2 ⟨rfl, hg, hm2⟩; have s0 := hg.cell (a := ⟨wr.heap.size, 0, none⟩) (by exact z0) (by simp; omega); have s1 := hg.cell (a := ⟨wr.heap.size, 1, none⟩) (by exact z1) (by simp; omega); have s2 := hg.cell (a := ⟨wr.heap.size, 2, none⟩) (by exact z2) (by simp; omega); have s4 := hg.cell (a := ⟨g, ea, none⟩) (by exact y0) (by simp; omega); have s5 := hg.cell (a := ⟨g, el, none⟩) (by exact y1) (by simp; omega); have s6 := hg.cell (a := ⟨g, eh, none⟩) (by exact y2) (by simp; omega)))
          have HP2 : Hid (Pol w W2 w.heap.size ρ EA (insAll ((lr.take (q + 1)).map ent3))) := by
            rw [Hid, take_map_snoc ent3 lr q _ HLE.out, insAll_snoc, HEQ.out]
            exact HPD.out.putR hg hm2
          clear s0 s1 s2 s4 s5 s6 hg hm2 z0 z1 z2 y0 y1 y2
          go_wp2
          go_roundw
          case rel => exact ⟨q + 1, by omega, by go_num, HP2⟩
          case measure => simp [intOf]; omega
        · obtain rfl : q = m := by omega
          have HP9 : Hid (Pol w wr w.heap.size ρ (insAll (la.map ent4)) (insAll (lr.map ent3))) := by
            have h9 := HP.out
            rw [List.take_of_length_le (by rw [HLR.out]; exact Nat.le_refl _)] at h9
            rw [Hid, HEAQ.out]
            exact h9
          go_wp2
          go_ret
          exact ⟨rfl, HP9.out⟩
end Go.Proofs.Qxb6616888a
