import Derived.Test.Qxb6616888aNam
namespace Go.Proofs.Qxb6616888a
open Go.RowKit

def dupAt (l : List Nat) (i : Nat) : Nat → Bool
  | 0 => false
  | j + 1 => dupAt l i j || (l.getD j 0 == l.getD i 0)
def dcount (l : List Nat) : Nat → Nat
  | 0 => 0
  | i + 1 => dcount l i + if dupAt l i i = true then 0 else 1
theorem dcount_le (l : List Nat) : ∀ i, dcount l i ≤ i
  | 0 => Nat.le_refl _
  | i + 1 => by have := dcount_le l i; simp only [dcount]; split <;> omega

def CellsOf (w : World) (g : Nat) (l : List Nat) : Prop := ∀ j, j < 4 → w.cell? ⟨g, j, none⟩ = some (.int .u8 ((l.getD j 0 : Nat) : Int))

set_option maxRecDepth 100000 in
set_option maxHeartbeats 1000000 in
theorem dist_any (e0 e1 e2 e3 k : Nat) (w : World) (hk : k ≤ 4) :
    Calls Try.prog 7 #[.agg #[.int .u8 e0, .int .u8 e1, .int .u8 e2, .int .u8 e3], .int .i64 k] w fun e w' => e = .returned (.int .i64 ((dcount [e0, e1, e2, e3] k : Nat) : Int)) ∧ Below w.heap.size w w' := by
  go_enter Try.func7, Try.ntmps7
  go_wp2
  have HW : Hid (Below w.heap.size w (w.alloc (.cells #[.int .u8 e0, .int .u8 e1, .int .u8 e2, .int .u8 e3] 30))) := (Below.refl _ _).alloc (Nat.le_refl _) _
  have HC : Hid (CellsOf (w.alloc (.cells #[.int .u8 e0, .int .u8 e1, .int .u8 e2, .int .u8 e3] 30)) w.heap.size [e0, e1, e2, e3]) := by
    intro j hj
    rw [cell_new]
    match j, hj with
    | 0, _ => rfl
    | 1, _ => rfl
    | 2, _ => rfl
    | 3, _ => rfl
  generalize w.alloc (.cells #[.int .u8 e0, .int .u8 e1, .int .u8 e2, .int .u8 e3] 30) = W0 at *
  generalize hll : [e0, e1, e2, e3] = l at *
  have HLL := hide hll
  clear hll
  go_loopw [5, 6] (fun c i wr => ∃ n : Nat, n ≤ k ∧ i = .int .i64 n ∧ c = .int .i64 ((dcount l n : Nat) : Int) ∧ Hid (CellsOf wr w.heap.size l) ∧ Hid (Below w.heap.size w wr)) (fun _ i _ => k - (intOf i).toNat)
  case atStart => exact ⟨0, Nat.zero_le _, rfl, rfl, HC, HW⟩
  case round =>
    rename World => wo
    obtain ⟨n, hn, rfl, rfl, HCo, HWo⟩ := hrel
    by_cases hlt : n < k
    · have hdl := dcount_le l n
      obtain ⟨dc, hdc⟩ : ∃ dc, dc = dcount l n := ⟨_, rfl⟩
      rw [← hdc] at hdl
      have HDC := hide hdc
      rw [← hdc]
      clear hdc
      go_wp2
      go_loopw [7, 8] (fun d j wr => ∃ q : Nat, q ≤ n ∧ j = .int .i64 q ∧ d = .bool (dupAt l n q) ∧ Hid (CellsOf wr w.heap.size l) ∧ Hid (Below w.heap.size w wr)) (fun _ j _ => n - (intOf j).toNat)
      case atStart => exact ⟨0, Nat.zero_le _, rfl, rfl, HCo, HWo⟩
      case round =>
        obtain ⟨q, hq, rfl, rfl, HCi, HWi⟩ := hrel
        by_cases hqn : q < n
        · have hcq := HCi.out q (by omega)
          have hcn := HCi.out n (by omega)
          have HST : Hid (dupAt l n (q + 1) = (dupAt l n q || (l.getD q 0 == l.getD n 0))) := rfl
          generalize l.getD q 0 = x at *
          generalize l.getD n 0 = y at *
          generalize dupAt l n q = dq at *
          have HC2 : Hid (CellsOf wr.drew w.heap.size l) := HCi.out
          have HW2 : Hid (Below w.heap.size w wr.drew) := HWi.out.drew
          by_cases hxy : x = y
          · have hb : (((x : Nat) : Int) == ((y : Nat) : Int)) = true := by simp; omega
            have HS2 : Hid (dupAt l n (q + 1) = true) := by rw [Hid, HST.out]; simp [hxy]
            clear hxy
            go_wp2
            go_region
            go_wp2
            go_roundw
            case rel => exact ⟨q + 1, by omega, by go_num, by rw [HS2.out], HC2, HW2⟩
            case measure => simp [intOf]; omega
          · have hb : (((x : Nat) : Int) == ((y : Nat) : Int)) = false := by simp; omega
            have HS2 : Hid (dupAt l n (q + 1) = dq) := by rw [Hid, HST.out]; simp [hxy]
            clear hxy
            go_wp2
            go_region
            go_wp2
            go_roundw
            case rel => exact ⟨q + 1, by omega, by go_num, by rw [HS2.out], HC2, HW2⟩
            case measure => simp [intOf]; omega
        · obtain rfl : q = n := by omega
          have HST : Hid (dcount l (q + 1) = dcount l q + if dupAt l q q = true then 0 else 1) := rfl
          generalize dupAt l q q = dq at *
          cases dq
          · have HS2 : Hid (dcount l (q + 1) = dc + 1) := by rw [Hid, HST.out, ← HDC.out]; rfl
            go_wp2
            go_roundw
            case rel => exact ⟨q + 1, by omega, by go_num, by rw [HS2.out]; go_num, HCi, HWi⟩
            case measure => simp [intOf]; omega
          · have HS2 : Hid (dcount l (q + 1) = dc) := by rw [Hid, HST.out, ← HDC.out]; rfl
            go_wp2
            go_roundw
            case rel => exact ⟨q + 1, by omega, by go_num, by rw [HS2.out], HCi, HWi⟩
            case measure => simp [intOf]; omega
    · obtain rfl : n = k := by omega
      go_wp2
      go_ret
      exact ⟨by rw [HLL.out]; rfl, HWo.out⟩
end Go.Proofs.Qxb6616888a
