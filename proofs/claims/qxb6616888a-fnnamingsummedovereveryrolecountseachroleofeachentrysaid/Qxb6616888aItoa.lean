import Derived.Test.Qxb6616888aArr
import Derived.WalkLawsBesides
namespace Go.Proofs.Qxb6616888a
open Go.RowKit

/-- A number below 256 in decimal. -/
def dec (i : Nat) : List UInt8 :=
  if i < 10 then [UInt8.ofNat (48 + i)] else if i < 100 then [UInt8.ofNat (48 + i / 10), UInt8.ofNat (48 + i % 10)] else [UInt8.ofNat (48 + i / 100), UInt8.ofNat (48 + i / 10 % 10), UInt8.ofNat (48 + i % 10)]
abbrev decS (i : Nat) : ByteArray := ⟨(dec i).toArray⟩

theorem conv_run {W : World} {g off n cap : Nat} (l : List UInt8) (hn : l.length = n) (hc : ∀ j (hj : j < l.length), W.cell? ⟨g, off + j, none⟩ = some (.int .u8 (l[j].toNat : Int))) :
    (convert 43 9 (.slice (some ⟨g, off, none⟩) n cap)).run Try.prog W = .ok (.string ⟨l.toArray⟩) W := by
  subst hn
  exact run_convert_bytes_back W 43 9 5 ⟨g, off, none⟩ cap l Try.underlying43 Try.underlying5 Try.underlying9 (fun j hj => by rw [Addr.add_lit]; exact hc j hj)

theorem cell_new (w : World) (cs : Array Value) (t : TypeId) (k : Nat) : (w.alloc (.cells cs t)).cell? ⟨w.heap.size, k, none⟩ = cs[k]? := by
  unfold World.cell?
  rw [(MapKept.heap_alloc w _).1]
  rfl

theorem dig (n : Nat) (h : n < 10) : ((UInt8.ofNat (48 + n)).toNat : Int) = 48 + (n : Int) := by
  rw [UInt8.toNat_ofNat']
  omega

theorem dec1 {i : Nat} (h : i < 10) : dec i = [UInt8.ofNat (48 + i)] := by simp [dec, h]
theorem dec2 {i : Nat} (h0 : 10 ≤ i) (h : i < 100) : dec i = [UInt8.ofNat (48 + i / 10), UInt8.ofNat (48 + i % 10)] := by
  simp [dec, show ¬ i < 10 by omega, h]
theorem dec3 {i : Nat} (h0 : 100 ≤ i) : dec i = [UInt8.ofNat (48 + i / 100), UInt8.ofNat (48 + i / 10 % 10), UInt8.ofNat (48 + i % 10)] := by
  simp [dec, show ¬ i < 10 by omega, show ¬ i < 100 by omega]

set_option maxRecDepth 100000 in
theorem itoa_0 (w : World) :
    Calls Try.prog 10 #[.int .i64 0] w fun e w' => e = .returned (.string (decS 0)) ∧ Below w.heap.size w w' := by
  go_enter Try.func10, Try.ntmps10
  go_wp2
  go_ret
  exact ⟨rfl, Below.refl _ _⟩

set_option maxRecDepth 100000 in
theorem itoa_1 (i : Nat) (w : World) (h0 : 0 < i) (h : i < 10) :
    Calls Try.prog 10 #[.int .i64 i] w fun e w' => e = .returned (.string (decS i)) ∧ Below w.heap.size w w' := by
  have hd1 : decide ((0 : Int) < (i : Int)) = true := by simp; omega
  have HD := hide (dig i h)
  have HL := hide (dec1 h)
  go_enter Try.func10, Try.ntmps10
  go_wp2
  refine wp_loop_rounds 2 ?_
  rw [rounds_succ]
  go_wp2
  have hd2 : decide ((0 : Int) < (i : Int) / 10) = false := by simp; omega
  rw [rounds_succ]
  go_wp2
  rw [conv_run (dec i) (by rw [HL.out]; rfl) (by
    intro j hj
    simp only [HL.out] at hj ⊢
    match j, hj with
    | 0, _ => rw [cell_new]; exact congrArg (fun z : Int => some (Value.int .u8 z)) (show (48 : Int) + (i : Int) % 10 = _ from by rw [show ((i : Int) % 10 : Int) = ((i : Nat) : Int) by omega]; exact (dig _ (by omega)).symm))]
  go_wp2
  go_ret
  exact ⟨rfl, (Below.refl _ _).alloc (Nat.le_refl _) _⟩

set_option maxRecDepth 100000 in
theorem itoa_2 (i : Nat) (w : World) (h0 : 10 ≤ i) (h : i < 100) :
    Calls Try.prog 10 #[.int .i64 i] w fun e w' => e = .returned (.string (decS i)) ∧ Below w.heap.size w w' := by
  have hd1 : decide ((0 : Int) < (i : Int)) = true := by simp; omega
  have HL := hide (dec2 h0 h)
  go_enter Try.func10, Try.ntmps10
  go_wp2
  refine wp_loop_rounds 3 ?_
  rw [rounds_succ]
  go_wp2
  have hd2 : decide ((0 : Int) < (i : Int) / 10) = true := by simp; omega
  rw [rounds_succ]
  go_wp2
  have hd3 : decide ((0 : Int) < (i : Int) / 10 / 10) = false := by simp; omega
  rw [rounds_succ]
  go_wp2
  rw [conv_run (dec i) (by rw [HL.out]; rfl) (by
    intro j hj
    simp only [HL.out] at hj ⊢
    match j, hj with
    | 0, _ => rw [cell_new]; exact congrArg (fun z : Int => some (Value.int .u8 z)) (show (48 : Int) + (i : Int) / 10 % 10 = _ from by rw [show ((i : Int) / 10 % 10 : Int) = ((i / 10 : Nat) : Int) by omega]; exact (dig _ (by omega)).symm)
    | 1, _ => rw [cell_new]; exact congrArg (fun z : Int => some (Value.int .u8 z)) (show (48 : Int) + (i : Int) % 10 = _ from by rw [show ((i : Int) % 10 : Int) = ((i % 10 : Nat) : Int) by omega]; exact (dig _ (by omega)).symm))]
  go_wp2
  go_ret
  exact ⟨rfl, (Below.refl _ _).alloc (Nat.le_refl _) _⟩

set_option maxRecDepth 100000 in
theorem itoa_3 (i : Nat) (w : World) (h0 : 100 ≤ i) (h : i < 256) :
    Calls Try.prog 10 #[.int .i64 i] w fun e w' => e = .returned (.string (decS i)) ∧ Below w.heap.size w w' := by
  have hd1 : decide ((0 : Int) < (i : Int)) = true := by simp; omega
  have HL := hide (dec3 h0)
  go_enter Try.func10, Try.ntmps10
  go_wp2
  refine wp_loop_rounds 4 ?_
  rw [rounds_succ]
  go_wp2
  have hd2 : decide ((0 : Int) < (i : Int) / 10) = true := by simp; omega
  rw [rounds_succ]
  go_wp2
  have hd3 : decide ((0 : Int) < (i : Int) / 10 / 10) = true := by simp; omega
  rw [rounds_succ]
  go_wp2
  have hd4 : decide ((0 : Int) < (i : Int) / 10 / 10 / 10) = false := by simp; omega
  rw [rounds_succ]
  go_wp2
  rw [conv_run (dec i) (by rw [HL.out]; rfl) (by
    intro j hj
    simp only [HL.out] at hj ⊢
    match j, hj with
    | 0, _ => rw [cell_new]; exact congrArg (fun z : Int => some (Value.int .u8 z)) (show (48 : Int) + (i : Int) / 10 / 10 % 10 = _ from by rw [show ((i : Int) / 10 / 10 % 10 : Int) = ((i / 100 : Nat) : Int) by omega]; exact (dig _ (by omega)).symm)
    | 1, _ => rw [cell_new]; exact congrArg (fun z : Int => some (Value.int .u8 z)) (show (48 : Int) + (i : Int) / 10 % 10 = _ from by rw [show ((i : Int) / 10 % 10 : Int) = ((i / 10 % 10 : Nat) : Int) by omega]; exact (dig _ (by omega)).symm)
    | 2, _ => rw [cell_new]; exact congrArg (fun z : Int => some (Value.int .u8 z)) (show (48 : Int) + (i : Int) % 10 = _ from by rw [show ((i : Int) % 10 : Int) = ((i % 10 : Nat) : Int) by omega]; exact (dig _ (by omega)).symm))]
  go_wp2
  go_ret
  exact ⟨rfl, (Below.refl _ _).alloc (Nat.le_refl _) _⟩

theorem itoa_any (i : Nat) (w : World) (h : i < 256) :
    Calls Try.prog 10 #[.int .i64 i] w fun e w' => e = .returned (.string (decS i)) ∧ Below w.heap.size w w' := by
  by_cases h0 : i = 0
  · subst h0; exact itoa_0 w
  · by_cases h1 : i < 10
    · exact itoa_1 i w (by omega) h1
    · by_cases h2 : i < 100
      · exact itoa_2 i w (by omega) h2
      · exact itoa_3 i w (by omega) h

/-- Back from the digits. -/
def val : List UInt8 → Nat → Nat
  | [], a => a
  | d :: r, a => val r (a * 10 + (d.toNat - 48))
theorem val_dec : ∀ i : Fin 256, val (dec i.val) 0 = i.val := by decide +kernel
theorem dec_inj {i j : Nat} (hi : i < 256) (hj : j < 256) (h : dec i = dec j) : i = j := by
  have a := val_dec ⟨i, hi⟩
  have b := val_dec ⟨j, hj⟩
  simp only at a b
  rw [← a, h, b]
theorem dec_len (i : Nat) : (dec i).length ≤ 3 := by
  unfold dec
  split
  · simp
  · split <;> simp
end Go.Proofs.Qxb6616888a
