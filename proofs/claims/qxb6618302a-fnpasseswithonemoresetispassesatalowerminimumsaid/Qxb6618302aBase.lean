import Derived.Test.Qxb6618302aRows
import Derived.Test.Qxb6618302aPlain
import Derived.WalkKit
import Derived.WalkSpells
import Derived.Below
namespace Go.Proofs.Qxb6618302a
open Go.RowKit

theorem hide {p : Prop} (h : p) : Hid p := h

/-- The slice reads as the list l. -/
def SliceIs (w : World) (a : Option Addr) (l : List Int) : Prop :=
  l = [] ∨ ∃ x, a = some x ∧ ∀ k, k < l.length → w.cell? (x.add k) = some (.int .i64 (l.getD k 0))

theorem SliceIs.at {w : World} {a : Option Addr} {l : List Int} (h : SliceIs w a l) {k : Nat} (hk : k < l.length) : ∃ x d, a = some x ∧ d = l.getD k 0 ∧ w.cell? (x.add k) = some (.int .i64 d) := by
  rcases h with rfl | ⟨x, rfl, h⟩
  · simp at hk
  · exact ⟨x, _, rfl, rfl, h k hk⟩

theorem SliceIs.below {B : Nat} {w w' : World} {a : Option Addr} {l : List Int} (h : SliceIs w a l) (hb : Below B w w') (hB : w.heap.size ≤ B) : SliceIs w' a l := by
  rcases h with rfl | ⟨x, rfl, h⟩
  · exact .inl rfl
  · refine .inr ⟨x, rfl, fun k hk => ?_⟩
    have h1 := h k hk
    have h2 := World.block_lt_of_cell? w _ h1
    rw [hb.cell (p := x.add k) (by omega)]
    exact h1

/-- Every number fits an int and is at least 0. -/
def Fits (l : List Int) : Prop := ∀ k, k < l.length → 0 ≤ l.getD k 0 ∧ l.getD k 0 ≤ 9223372036854775807

theorem Fits.nonneg {l : List Int} (h : Fits l) : NonNeg l := nonneg_of fun k hk => (h k hk).1

set_option maxHeartbeats 400000 in
theorem passes_any (name : ByteArray) (m : Int) (a : Option Addr) (n cap : Nat) (l : List Int) (w : World) (hn : n = l.length) (hs : SliceIs w a l) (hf : Fits l) (hl : n ≤ 1048576)
    (hm1 : -9223372036854775808 ≤ m) (hm2 : m ≤ 9223372036854775807) :
    Calls Try.prog 9 #[.agg #[.string name, .slice none 0 0, .int .i64 m], .slice a n cap] w fun e w' => e = .returned (.bool (passB m l)) ∧ Below w.heap.size w w' := by
  have HS : Hid (SliceIs (w.alloc (.cells #[.string name, .slice none 0 0, .int .i64 m] 31)) a l) := hs.below ((Below.refl w.heap.size w).alloc (Nat.le_refl _) _) (Nat.le_refl _)
  have HF := hide hf
  have HN := hide hn
  clear hs hf hn
  go_enter Try.func9, Try.ntmps9
  go_wp2
  go_loop [5, 12] (fun s i => ∃ (k : Nat) (t : Int), k ≤ n ∧ i = .int .i64 k ∧ s = .int .i64 t ∧ -9223372036854775808 ≤ t ∧ t ≤ 9223372036854775807 ∧ Hid (passB m l = passB t (l.drop k))) (fun _ i => n - (intOf i).toNat)
  case atStart => exact ⟨0, m, Nat.zero_le _, rfl, rfl, hm1, hm2, rfl⟩
  case round =>
    obtain ⟨k, t, hk, rfl, rfl, ht1, ht2, HP⟩ := hrel
    by_cases hlt : k < n
    · obtain ⟨x, d, rfl, hd, hcell⟩ := HS.out.at (k := k) (by rw [← HN.out]; exact hlt)
      have hfd := HF.out k (by rw [← HN.out]; exact hlt)
      rw [← hd] at hfd
      have hstep := passB_drop l k t (by rw [← HN.out]; exact hlt)
      rw [← hd] at hstep
      have HST := hide hstep
      obtain ⟨hd0, hd1⟩ := hfd
      clear hd hstep
      by_cases hc : t ≤ d
      · have HE : Hid (passB m l = true) := by rw [Hid, HP.out, HST.out, decide_eq_true hc]; rfl
        go_wp2
        go_ret
        exact ⟨by rw [HE.out]; rfl, (Below.refl _ _).alloc (Nat.le_refl _) _⟩
      · have HE : Hid (passB m l = passB (t - d) (l.drop (k + 1))) := by rw [Hid, HP.out, HST.out, decide_eq_false hc]; rfl
        go_wp2
        go_round
        case rel => exact ⟨k + 1, t - d, by omega, by go_num, rfl, by omega, by omega, HE⟩
        case measure => simp [intOf]; omega
    · have HE : Hid (passB m l = false) := by
        rw [Hid, HP.out, List.drop_eq_nil_of_le (by rw [← HN.out]; omega)]; rfl
      go_wp2
      go_ret
      exact ⟨by rw [HE.out]; rfl, (Below.refl _ _).alloc (Nat.le_refl _) _⟩

set_option maxHeartbeats 400000 in
theorem zzpasses_any (name : ByteArray) (m : Int) (a : Option Addr) (n cap : Nat) (l : List Int) (w : World) (hn : n = l.length) (hs : SliceIs w a l) (hf : Fits l) (hl : n ≤ 1048576)
    (hm1 : -9223372036854775808 ≤ m) (hm2 : m ≤ 9223372036854775807) :
    Calls Try.prog 7 #[.string name, .int .i64 m, .slice a n cap] w fun e w' => e = .returned (.bool (passB m l)) ∧ Below w.heap.size w w' := by
  have HS := hide hs
  have HF := hide hf
  have HN := hide hn
  clear hs hf hn
  go_enter Try.func7, Try.ntmps7
  go_wp2_with (go_at_call 9; go_loud (refine (passes_any name m a n cap l w HN.out HS.out HF.out hl hm1 hm2).mono ?_; rintro e w' ⟨rfl, hb⟩))
  go_ret
  exact ⟨rfl, hb⟩

end Go.Proofs.Qxb6618302a
