import Derived.Test.Qxb6617743aRows
import Derived.WalkKit
import Derived.Below
namespace Go.Proofs.Qxb6617743a
open Go.RowKit

/-- JSON's white space. -/
def ws (c : Int) : Bool := c == 32 || c == 9 || c == 10 || c == 13

set_option maxHeartbeats 400000 in
theorem isSpace_any (c : Int) (w : World) : Calls Try.prog 8 #[.int .u8 c] w fun e w' => e = .returned (.bool (ws c)) ∧ w = w' := by
  by_cases h1 : (c == 32) = true
  · have hv : ws c = true := by simp [ws, h1]
    rw [hv]
    go_enter Try.func8, Try.ntmps8
    go_wp2
    go_ret
    exact ⟨rfl, rfl⟩
  have h1' : (c == 32) = false := by simpa using h1
  by_cases h2 : (c == 9) = true
  · have hv : ws c = true := by simp [ws, h2]
    rw [hv]
    go_enter Try.func8, Try.ntmps8
    go_wp2
    go_ret
    exact ⟨rfl, rfl⟩
  have h2' : (c == 9) = false := by simpa using h2
  by_cases h3 : (c == 10) = true
  · have hv : ws c = true := by simp [ws, h3]
    rw [hv]
    go_enter Try.func8, Try.ntmps8
    go_wp2
    go_ret
    exact ⟨rfl, rfl⟩
  have h3' : (c == 10) = false := by simpa using h3
  have hv : ws c = (c == 13) := by simp [ws, h1', h2', h3']
  rw [hv]
  go_enter Try.func8, Try.ntmps8
  go_wp2
  go_ret
  exact ⟨rfl, rfl⟩

set_option maxHeartbeats 400000 in
theorem zzWhite_any (c : Int) (w : World) : Calls Try.prog 5 #[.int .u8 c] w fun e w' => e = .returned (.bool (ws c)) ∧ w = w' := by
  by_cases h1 : (c == 32) = true
  · have hv : ws c = true := by simp [ws, h1]
    rw [hv]
    go_enter Try.func5, Try.ntmps5
    go_wp2
    go_ret
    exact ⟨rfl, rfl⟩
  have h1' : (c == 32) = false := by simpa using h1
  by_cases h2 : (c == 9) = true
  · have hv : ws c = true := by simp [ws, h2]
    rw [hv]
    go_enter Try.func5, Try.ntmps5
    go_wp2
    go_ret
    exact ⟨rfl, rfl⟩
  have h2' : (c == 9) = false := by simpa using h2
  by_cases h3 : (c == 10) = true
  · have hv : ws c = true := by simp [ws, h3]
    rw [hv]
    go_enter Try.func5, Try.ntmps5
    go_wp2
    go_ret
    exact ⟨rfl, rfl⟩
  have h3' : (c == 10) = false := by simpa using h3
  have hv : ws c = (c == 13) := by simp [ws, h1', h2', h3']
  rw [hv]
  go_enter Try.func5, Try.ntmps5
  go_wp2
  go_ret
  exact ⟨rfl, rfl⟩

/-- The slice at block 'g' reads as 'zs' in its first 'len' cells. -/
def Reads (w : World) (g len : Nat) (zs : List Int) : Prop := ∀ k, k < len → w.cell? ⟨g, k, none⟩ = some (.int .u8 (zs.getD k 0))

set_option maxHeartbeats 400000 in
theorem skip_any (g len cap i r : Nat) (zs : List Int) (w : World) (hc : Reads w g len zs) (hl : len ≤ 1048576) (hi : i ≤ r) (hr : r < len)
    (hw : ∀ k, i ≤ k → k < r → ws (zs.getD k 0) = true) (hn : ws (zs.getD r 0) = false) :
    Calls Try.prog 7 #[.slice (some ⟨g, 0, none⟩) len cap, .int .i64 i] w fun e w' => e = .returned (.int .i64 r) ∧ w = w' := by
  have HC : Hid (Reads w g len zs) := hc
  clear hc
  have HW : Hid (∀ k, i ≤ k → k < r → ws (zs.getD k 0) = true) := hw
  have HN : Hid (ws (zs.getD r 0) = false) := hn
  clear hw hn
  go_enter Try.func7, Try.ntmps7
  go_wp2
  go_loop [1] (fun t => ∃ k : Nat, i ≤ k ∧ k ≤ r ∧ t = .int .i64 k) (fun t => r - (intOf t).toNat)
  case atStart => exact ⟨i, Nat.le_refl _, hi, rfl⟩
  case round =>
    obtain ⟨k, hk1, hk2, rfl⟩ := hrel
    have hcell := HC.out k (by omega)
    by_cases hlt : k < r
    · have hwk := HW.out k hk1 hlt
      generalize zs.getD k 0 = c at *
      go_wp2_with (go_at_call 8; refine (isSpace_any _ _).mono ?_; rintro e w' ⟨rfl, rfl⟩)
      go_round
      case rel => exact ⟨k + 1, by omega, by omega, by go_num⟩
      case measure => simp [intOf]; omega
    · obtain rfl : k = r := by omega
      have hwk := HN.out
      generalize zs.getD k 0 = c at *
      go_wp2_with (go_at_call 8; refine (isSpace_any _ _).mono ?_; rintro e w' ⟨rfl, rfl⟩)
      go_ret
      exact ⟨rfl, rfl⟩

set_option maxHeartbeats 400000 in
theorem zzskip_any (g len cap i r : Nat) (zs : List Int) (w : World) (hc : Reads w g len zs) (hl : len ≤ 1048576) (hi : i ≤ r) (hr : r < len)
    (hw : ∀ k, i ≤ k → k < r → ws (zs.getD k 0) = true) (hn : ws (zs.getD r 0) = false) :
    Calls Try.prog 6 #[.slice (some ⟨g, 0, none⟩) len cap, .int .i64 i] w fun e w' => e = .returned (.int .i64 r) ∧ w = w' := by
  have HC : Hid (Reads w g len zs) := hc
  have HW : Hid (∀ k, i ≤ k → k < r → ws (zs.getD k 0) = true) := hw
  have HN : Hid (ws (zs.getD r 0) = false) := hn
  clear hc hw hn
  go_enter Try.func6, Try.ntmps6
  go_wp2_with (go_at_call 7; refine (skip_any g len cap i r zs w HC.out hl hi hr HW.out HN.out).mono ?_; rintro e w' ⟨rfl, rfl⟩)
  go_ret
  exact ⟨rfl, rfl⟩

end Go.Proofs.Qxb6617743a
