import Derived.Test.Qxb6616888aRole
namespace Go.Proofs.Qxb6616888a
open Go.RowKit Go.ChangeMaps

theorem Try.info35 : (Try.prog.info? 35).map (fun i => (i.zero, i.size, i.bytes)) = some (some (.pointer none), 1, 8) := by kernel_rfl

theorem below_grown {w w' : World} (h : Below w.heap.size w w') : w.grownBy w' none := ⟨h.os, h.tape, h.output, h.size, fun k hk _ => h.block k hk⟩
theorem IsRole.below {B : Nat} {w w' : World} {R : Nat} (h : IsRole w R) (hb : Below B w w') (hR : R < B) : IsRole w' R := by
  obtain ⟨c, hc⟩ := h
  exact ⟨c, by rw [hb.block R hR]; exact hc⟩
theorem IsRole.lt {w : World} {R : Nat} (h : IsRole w R) : R < w.heap.size := by
  obtain ⟨c, hc⟩ := h
  exact (Array.getElem?_eq_some_iff.1 hc).1
theorem IsRole.next {w w' : World} {R : Nat} (h : IsRole w R) (hb : Below w.heap.size w w') : IsRole w' R := h.below hb h.lt
theorem IsRole.setCell {w : World} {R : Nat} {a : Addr} (h : IsRole w R) (hne : R ≠ a.block) (v : Value) : IsRole (w.setCell a v) R := by
  obtain ⟨c, hc⟩ := h
  exact ⟨c, by rw [Below.heap_setCell _ _ _ _ hne]; exact hc⟩

/-- The first k roles. -/
structure RolesTo (w : World) (g k : Nat) (ρ : Nat → Nat) : Prop where
  role : ∀ j, j < k → IsRole w (ρ j) ∧ g < ρ j
  apart : ∀ i j, i < j → j < k → ρ i < ρ j

theorem rolesTo_step {w : World} {g k R : Nat} {ρ : Nat → Nat} (h : RolesTo w g k ρ) (hR : IsRole w R) (hg : g < R) (hlt : ∀ j, j < k → ρ j < R) : RolesTo w g (k + 1) (fun j => if j = k then R else ρ j) := by
  refine ⟨fun j hj => ?_, fun i j hij hj => ?_⟩
  · by_cases e : j = k
    · simp only [e, if_true]; exact ⟨hR, hg⟩
    · simp only [e, if_false]; exact h.role j (by omega)
  · by_cases e : j = k
    · have e2 : i ≠ k := by omega
      simp only [e, if_true, e2, if_false]; exact hlt i (by omega)
    · have e2 : i ≠ k := by omega
      simp only [e, if_false, e2]; exact h.apart i j hij (by omega)

/-- The cells hold them. -/
def Held (xs : List Value) (k : Nat) (ρ : Nat → Nat) : Prop := ∀ j, j < k → xs[j]? = some (rp (ρ j))

theorem held_step {xs : List Value} {k R : Nat} {ρ : Nat → Nat} (h : Held xs k ρ) (hk : k < xs.length) : Held (xs.set k (rp R)) (k + 1) (fun j => if j = k then R else ρ j) := by
  intro j hj
  by_cases e : j = k
  · subst e
    simp [hk]
  · rw [List.getElem?_set_ne (by omega)]
    simp only [e, if_false]
    exact h j (by omega)

set_option maxRecDepth 100000 in
set_option maxHeartbeats 1000000 in
theorem roles_any (w : World) :
    Calls Try.prog 5 #[] w fun e w' => ∃ xs ρ, e = .returned (.slice (some ⟨w.heap.size, 0, none⟩) 256 256) ∧ w'.ownsRow w.heap.size 35 1 (.slice (some ⟨w.heap.size, 0, none⟩) 256 256) 256 xs ∧ Held xs 256 ρ ∧ RolesTo w' w.heap.size 256 ρ ∧ Below w.heap.size w w' := by
  obtain ⟨i0, hi0, hz0, hz1, hz2⟩ := info_parts Try.info35
  go_enter Try.func5, Try.ntmps5
  go_wp2_with (at_make; refine wpList_make_full _ rfl _ _ 25 rfl w.heap.size 35 i0 (.pointer none) 1 Try.underlying25 hi0 hz0 hz1 _ _ _ _ 256 rfl rfl rfl rfl (by rw [hz2]; omega) (by unfold maxLen; omega) (Nat.le_refl _) ?_; intro w1 hown1 hgrow1)
  have hb1 : Below w.heap.size w w1 := (Below.refl _ _).grown hgrow1 (Nat.le_refl _) (by intro k hk; cases hk)
  clear hgrow1
  go_loopw [2] (fun i wr => ∃ (k : Nat) (xs : List Value) (ρ : Nat → Nat), k ≤ 256 ∧ i = .int .i64 k ∧ wr.ownsRow w.heap.size 35 1 (.slice (some ⟨w.heap.size, 0, none⟩) 256 256) 256 xs ∧ Hid (Held xs k ρ) ∧ Hid (RolesTo wr w.heap.size k ρ) ∧ Hid (Below w.heap.size w wr)) (fun i _ => 256 - (intOf i).toNat)
  case atStart => exact ⟨0, _, fun _ => 0, by omega, rfl, hown1, fun j hj => absurd hj (by omega), ⟨fun j hj => absurd hj (by omega), fun i j _ hj => absurd hj (by omega)⟩, hb1⟩
  case round =>
    clear hown1 hb1
    obtain ⟨k, xs, ρ, hk, rfl, hown, HH, HR, HB⟩ := hrel
    by_cases hlt : k < 256
    · have hlen : (decS k).size ≤ 3 := dec_len k
      have hadd := fun (W : World) => run_string_add_sum (P := Try.prog) W ⟨#[114]⟩ (decS k) (by have h9 : (⟨#[114]⟩ : ByteArray).size = 1 := rfl; omega)
      go_wp2_with fail
      refine (itoa_any k wr hlt).mono ?_
      rintro e w2 ⟨rfl, hb2⟩
      have HB2 := hide hb2
      clear hb2
      go_wp2_with fail
      refine (zznewRole_any _ w2).mono ?_
      rintro e w3 ⟨R, rfl, hR1, hR2, hb3⟩
      have hown3 := (hown.kept (below_grown HB2.out) (Or.inr (by simp [Value.ownBlock]))).kept (below_grown hb3) (Or.inr (by simp [Value.ownBlock]))
      have hgl : w.heap.size < wr.heap.size := (hown.lt w.heap.size rfl).2
      have hxl : xs.length = 256 := by simpa using hown3.1
      obtain ⟨old, hold⟩ : ∃ v, xs[k]? = some v := ⟨xs[k]'(by omega), List.getElem?_eq_getElem (by omega)⟩
      have hcell : w3.cell? ⟨w.heap.size, k, none⟩ = some old := (hown3.cellAt k (by omega)).trans hold
      have hfz : w3.frozen? ⟨w.heap.size, k, none⟩ = false := hown3.frozenAt k
      have HO : Hid ((w3.setCell ⟨w.heap.size, k, none⟩ (rp R)).ownsRow w.heap.size 35 1 (.slice (some ⟨w.heap.size, 0, none⟩) 256 256) 256 (xs.set k (rp R))) := (hown3.stored k (rp R)).1
      have h23 : Below wr.heap.size wr w3 := HB2.out.trans (hb3.mono HB2.out.size)
      have HB3 : Hid (Below w.heap.size w (w3.setCell ⟨w.heap.size, k, none⟩ (rp R))) := (HB.out.trans (h23.mono HB.out.size)).setCell (Nat.le_refl _) _
      have HR3 : Hid (RolesTo (w3.setCell ⟨w.heap.size, k, none⟩ (rp R)) w.heap.size (k + 1) (fun j => if j = k then R else ρ j)) := by
        have hs2 := HB2.out.size
        refine rolesTo_step ⟨fun j hj => ?_, HR.out.apart⟩ (hR2.setCell (by show R ≠ w.heap.size; omega) _) (by omega) (fun j hj => ?_)
        · have h1 := HR.out.role j hj
          exact ⟨(h1.1.next h23).setCell (by show ρ j ≠ w.heap.size; omega) _, h1.2⟩
        · have h1 := (HR.out.role j hj).1.lt
          omega
      have HH3 : Hid (Held (xs.set k (rp R)) (k + 1) (fun j => if j = k then R else ρ j)) := held_step HH.out (by omega)
      clear hown hown3 hR2 hb3 hold h23 hadd hlen
      go_wp2
      go_roundw
      case rel => exact ⟨k + 1, _, _, by omega, by go_num, HO.out, HH3, HR3, HB3⟩
      case measure => simp [intOf]; omega
    · obtain rfl : k = 256 := by omega
      go_wp2
      go_ret
      exact ⟨xs, ρ, rfl, hown, HH.out, HR.out, HB.out⟩
end Go.Proofs.Qxb6616888a
