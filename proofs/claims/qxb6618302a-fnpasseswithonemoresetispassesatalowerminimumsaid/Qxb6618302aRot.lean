import Derived.Test.Qxb6618302aCopy
namespace Go.Proofs.Qxb6618302a
open Go.RowKit

/-- Every number fits an int. -/
def InInt (l : List Int) : Prop := ∀ k, k < l.length → l.getD k 0 ≤ 9223372036854775807

theorem fits_mem {l : List Int} : Fits l ↔ ∀ d ∈ l, 0 ≤ d ∧ d ≤ 9223372036854775807 := by
  constructor
  · intro h d hd
    obtain ⟨k, hk, rfl⟩ := List.getElem_of_mem hd
    have := h k hk
    simpa [hk] using this
  · intro h k hk
    have := h l[k] (List.getElem_mem hk)
    simpa [hk] using this

theorem fits_append {a b : List Int} (ha : Fits a) (hb : Fits b) : Fits (a ++ b) := fits_mem.2 fun d hd => by
  rcases List.mem_append.1 hd with h | h
  · exact fits_mem.1 ha d h
  · exact fits_mem.1 hb d h
theorem fits_take {l : List Int} (h : Fits l) (c : Nat) : Fits (l.take c) := fits_mem.2 fun d hd => fits_mem.1 h d (List.mem_of_mem_take hd)
theorem fits_drop {l : List Int} (h : Fits l) (c : Nat) : Fits (l.drop c) := fits_mem.2 fun d hd => fits_mem.1 h d (List.mem_of_mem_drop hd)
theorem fits_rot {l : List Int} (h : Fits l) (c : Nat) : Fits (l.drop c ++ l.take c) := fits_append (fits_drop h c) (fits_take h c)

theorem SliceIs.lit {w : World} {g : Nat} {l : List Int} (h : SliceIs w (some ⟨g, 0, none⟩) l) {k : Nat} (hk : k < l.length) : ∃ d, d = l.getD k 0 ∧ w.cell? ⟨g, k, none⟩ = some (.int .i64 d) := by
  obtain ⟨x, d, hx, hd, hc⟩ := h.at hk
  cases hx
  rw [Addr.add_lit, Nat.zero_add] at hc
  exact ⟨d, hd, hc⟩

section
variable (name : ByteArray) (m cut : Int) (a : Option Addr) (n cap : Nat) (w : World)

theorem rot_g1 (h : 1048576 < name.size + n) (hm : name.size ≤ maxLen) (hm2 : n ≤ maxLen) :
    Calls Try.prog 3 #[.string name, .int .i64 m, .slice a n cap, .int .i64 cut] w fun e w' => e = .returned (.bool true) ∧ Below w.heap.size w w' := by
  unfold maxLen at hm hm2
  by_cases h1 : 1048576 < name.size
  · go_enter Try.func3, Try.ntmps3
    go_wp2
    go_ret
    exact ⟨rfl, Below.refl _ _⟩
  · by_cases h2 : 1048576 < n
    · go_enter Try.func3, Try.ntmps3
      go_wp2
      go_ret
      exact ⟨rfl, Below.refl _ _⟩
    · go_enter Try.func3, Try.ntmps3
      go_wp2
      go_ret
      exact ⟨rfl, Below.refl _ _⟩

theorem rot_g2 (h : name.size + n ≤ 1048576) (h2 : (1048576 - (name.size : Int)) / 8 < (n : Int)) :
    Calls Try.prog 3 #[.string name, .int .i64 m, .slice a n cap, .int .i64 cut] w fun e w' => e = .returned (.bool true) ∧ Below w.heap.size w w' := by
  go_enter Try.func3, Try.ntmps3
  go_wp2
  go_ret
  exact ⟨rfl, Below.refl _ _⟩

theorem rot_g3 (h : name.size + n ≤ 1048576) (h2 : (n : Int) ≤ (1048576 - (name.size : Int)) / 8) (h3 : cut < 0 ∨ (n : Int) < cut) :
    Calls Try.prog 3 #[.string name, .int .i64 m, .slice a n cap, .int .i64 cut] w fun e w' => e = .returned (.bool true) ∧ Below w.heap.size w w' := by
  by_cases h4 : cut < 0
  · have hd : decide (cut < 0) = true := by simpa using h4
    clear h3
    go_enter Try.func3, Try.ntmps3
    go_wp2
    go_ret
    exact ⟨rfl, Below.refl _ _⟩
  · have hd : decide (cut < 0) = false := by simpa using h4
    have hd2 : decide ((n : Int) < cut) = true := by simp; omega
    clear h3
    go_enter Try.func3, Try.ntmps3
    go_wp2
    go_ret
    exact ⟨rfl, Below.refl _ _⟩
end

set_option maxRecDepth 100000 in
set_option maxHeartbeats 2000000 in
theorem rot_main (name : ByteArray) (m : Int) (x : Addr) (n cap c r : Nat) (zs : List Int) (w : World) (h : name.size + n ≤ 1048576) (h2 : (n : Int) ≤ (1048576 - (name.size : Int)) / 8)
    (hr1 : c + r ≤ n) (hr2 : n ≤ c + r) (hnz : n ≤ zs.length) (hcell : ∀ k, k < zs.length → w.cell? (x.add k) = some (.int .i64 (zs.getD k 0))) (hin : InInt (zs.take n))
    (hm1 : -9223372036854775808 ≤ m) (hm2 : m ≤ 9223372036854775807) :
    Calls Try.prog 3 #[.string name, .int .i64 m, .slice (some x) n cap, .int .i64 c] w fun e w' => e = .returned (.bool true) ∧ Below w.heap.size w w' := by
  obtain ⟨i0, hi0, hz0, hz1, hz2⟩ := info_parts Try.info3
  have hnil := fun (wx : World) (a : Option Addr) (n c : Nat) => run_neq_slice_nil_any (P := Try.prog) wx 22 3 a n c 0 0 Try.underlying22
  have HC := hide hcell
  have HZ := hide hnz
  have HIN := hide hin
  have HLN : Hid (n = (zs.take n).length) := by rw [Hid, List.length_take]; omega
  clear hcell hnz hin
  have hd : decide ((c : Int) < 0) = false := by simp
  have hd2 : decide ((n : Int) < (c : Int)) = false := by simp; omega
  go_enter Try.func3, Try.ntmps3
  go_wp2_with (first
    | (at_make; refine wpList_make_full _ rfl _ _ 22 rfl w.heap.size 3 i0 (.int .i64 0) 1 Try.underlying22 hi0 hz0 hz1 _ _ _ _ n rfl rfl rfl rfl (by rw [hz2]; omega) (by unfold maxLen; omega) (Nat.le_refl _) ?_; intro w1 hown1 hgrow1; obtain ⟨cur, hcur, hrow⟩ := made_row hown1; obtain ⟨w2, hcopy, hreads, hbel⟩ := copy_run (cap := cap) hcur hrow HZ.out hgrow1 HC.out; have HR := hide hreads; have HB := hide hbel; clear hown1 hgrow1 hcur hrow hreads hbel)
    | (go_at_call 5; go_in))
  clear hnil hcopy
  generalize zs.take n = l at *
  clear HC HZ
  go_loop [10] (fun i => ∃ k : Nat, k ≤ n ∧ i = .int .i64 k ∧ Hid (∀ j, j < k → 0 ≤ l.getD j 0)) (fun i => n - (intOf i).toNat)
  case atStart => exact ⟨0, Nat.zero_le _, rfl, fun j hj => absurd hj (by omega)⟩
  case round =>
    obtain ⟨k, hk, rfl, HNN⟩ := hrel
    by_cases hlt : k < n
    · obtain ⟨d, hdd, hcell⟩ := HR.out.lit (k := k) (by rw [← HLN.out]; exact hlt)
      have HDD := hide hdd
      clear hdd
      by_cases hneg : d < 0
      · go_wp2
        go_ret
        exact ⟨rfl, HB.out⟩
      · go_wp2
        go_round
        case rel =>
          refine ⟨k + 1, by omega, by go_num, fun j hj => ?_⟩
          by_cases e : j = k
          · rw [e, ← HDD.out]; omega
          · exact HNN.out j (by omega)
        case measure => simp [intOf]; omega
    · have HF : Hid (Fits l) := fun j hj => ⟨HNN.out j (by have := HLN.out; omega), HIN.out j hj⟩
      have HWANT := hide (pass_want l m HF.out.nonneg)
      have HROT := hide (pass_rot l c m HF.out.nonneg)
      clear HNN HIN
      have hn20 : n ≤ 1048576 := by omega
      obtain ⟨b, hb⟩ : ∃ b, passB m l = b := ⟨_, rfl⟩
      have HP : Hid (passB m l = b) := hb
      have HPR : Hid (passB m (l.drop c ++ l.take c) = b) := HROT.out.trans hb
      clear hb HROT
      by_cases hpos : 0 < n
      · have hdn : decide ((0 : Int) < (n : Int)) = true := by simp; omega
        have HT : Hid (decide (m ≤ 0 + tot l) = b) := by
          have h8 := HWANT.out
          rw [← HLN.out, decide_eq_true hpos, Bool.true_and, HP.out] at h8
          exact h8.symm
        go_wp2_with (first
          | (go_at_call 6; refine (total_any (some ⟨w.heap.size, 0, none⟩) n n l 0 m w2 HLN.out HR.out HF.out hn20 (by omega) (by omega) hm2).mono ?_; rintro e w' ⟨he, rfl⟩; rw [HT.out] at he; subst he)
          | (at_make; refine wpList_make_own _ rfl _ _ 22 rfl w2.heap.size 3 i0 (.int .i64 0) 1 Try.underlying22 hi0 hz0 hz1 _ _ _ n rfl rfl rfl (by rw [hz2]; omega) (by unfold maxLen; omega) (Nat.le_refl _) ?_; intro w3 hown3 hgrow3))
        clear hk hlt
        have HB3 : Hid (Below w2.heap.size w2 w3) := (Below.refl _ _).grown hgrow3 (Nat.le_refl _) (by intro k hk; cases hk)
        clear hgrow3
        go_loopw [13, 14] (fun rot i wr => ∃ j : Nat, c + j ≤ n ∧ rot = .slice (some ⟨w2.heap.size, 0, none⟩) j n ∧ i = .int .i64 ((c : Int) + (j : Int)) ∧ wr.ownsRow w2.heap.size 3 1 (.slice (some ⟨w2.heap.size, 0, none⟩) j n) j (((l.drop c).take j).map (Value.int .i64)) ∧ Hid (Below w2.heap.size w2 wr)) (fun _ i _ => n - (intOf i).toNat)
        case atStart => exact ⟨0, by omega, rfl, by simp, by simpa using hown3, HB3⟩
        case round =>
          obtain ⟨j, hj, rfl, rfl, hown, HBR⟩ := hrel
          clear hown3 HB3
          by_cases hlt : c + j < n
          · obtain ⟨d, hdd, hcell⟩ := (HR.out.below HBR.out (Nat.le_refl _)).lit (k := c + j) (by rw [← HLN.out]; exact hlt)
            have HDD := hide hdd
            clear hdd
            go_wp2_with (at_builtin; refine wpList_append_fits _ rfl _ _ 22 rfl w2.heap.size 3 i0 1 Try.underlying22 hi0 hz1 w2.heap.size j n _ rfl (hown.alloc _) ⟨wr.heap.size, 0, none⟩ 1 1 [.int .i64 d] rfl rfl (cell_one_new _ _ _) (ints_oneCell .i64 [d]) (by omega) ?_; intro w4 hown4 hgrow4)
            have HO : Hid (w4.ownsRow w2.heap.size 3 1 (.slice (some ⟨w2.heap.size, 0, none⟩) (j + 1) n) (j + 1) (((l.drop c).take (j + 1)).map (Value.int .i64))) := by
              rw [take_snoc l c j (by rw [← HLN.out]; exact hlt), ← HDD.out, List.map_append]; exact hown4
            have HB4 : Hid (Below w2.heap.size w2 w4) := (HBR.out.alloc HBR.out.size _).grown hgrow4 (by have := HBR.out.size; simp; omega) (by intro k hk; cases hk; exact Nat.le_refl _)
            clear hown4 hgrow4 hcell hown
            go_wp2
            go_roundw
            case rel => exact ⟨j + 1, by omega, rfl, by go_num, HO.out, HB4⟩
            case measure => simp [intOf]; omega
          · obtain rfl : j = r := by omega
            clear hlt hj
            go_wp2
            have hown2 : wr.ownsRow w2.heap.size 3 1 (.slice (some ⟨w2.heap.size, 0, none⟩) j n) j ((l.drop c ++ l.take 0).map (Value.int .i64)) := by
              rw [List.take_of_length_le (by rw [List.length_drop, ← HLN.out]; omega)] at hown
              simpa using hown
            clear hown
            have HBR0 := HBR
            clear HBR
            go_loopw [13, 15] (fun rot i wr => ∃ q : Nat, q ≤ c ∧ rot = .slice (some ⟨w2.heap.size, 0, none⟩) (j + q) n ∧ i = .int .i64 q ∧ wr.ownsRow w2.heap.size 3 1 (.slice (some ⟨w2.heap.size, 0, none⟩) (j + q) n) (j + q) ((l.drop c ++ l.take q).map (Value.int .i64)) ∧ Hid (Below w2.heap.size w2 wr)) (fun _ i _ => c - (intOf i).toNat)
            case atStart => exact ⟨0, by omega, rfl, rfl, hown2, HBR0⟩
            case round =>
              obtain ⟨q, hq, rfl, rfl, hown, HBR⟩ := hrel
              clear hown2 HBR0
              by_cases hlt : q < c
              · obtain ⟨d, hdd, hcell⟩ := (HR.out.below HBR.out (Nat.le_refl _)).lit (k := q) (by rw [← HLN.out]; omega)
                have HDD := hide hdd
                clear hdd
                go_wp2_with (at_builtin; refine wpList_append_fits _ rfl _ _ 22 rfl w2.heap.size 3 i0 1 Try.underlying22 hi0 hz1 w2.heap.size (j + q) n _ rfl (hown.alloc _) ⟨wr.heap.size, 0, none⟩ 1 1 [.int .i64 d] rfl rfl (cell_one_new _ _ _) (ints_oneCell .i64 [d]) (by omega) ?_; intro w4 hown4 hgrow4)
                have HO : Hid (w4.ownsRow w2.heap.size 3 1 (.slice (some ⟨w2.heap.size, 0, none⟩) (j + q + 1) n) (j + q + 1) ((l.drop c ++ l.take (q + 1)).map (Value.int .i64))) := by
                  rw [take_snoc0 l q (by rw [← HLN.out]; omega), ← HDD.out, ← List.append_assoc, List.map_append]; exact hown4
                have HB4 : Hid (Below w2.heap.size w2 w4) := (HBR.out.alloc HBR.out.size _).grown hgrow4 (by have := HBR.out.size; simp; omega) (by intro k hk; cases hk; exact Nat.le_refl _)
                clear hown4 hgrow4 hcell hown
                go_wp2
                go_roundw
                case rel => exact ⟨q + 1, by omega, rfl, by go_num, HO.out, HB4⟩
                case measure => simp [intOf]; omega
              · have hqc : q = c := by omega
                have HO : Hid (SliceIs wr (some ⟨w2.heap.size, 0, none⟩) (l.drop c ++ l.take c) ∧ j + q = (l.drop c ++ l.take c).length) := by
                  have h9 := slice_own hown
                  rw [hqc] at h9 ⊢
                  exact h9
                clear hqc hown
                go_wp2_with fail
                refine (zzpasses_any name m (some ⟨w.heap.size, 0, none⟩) n n l wr HLN.out (HR.out.below HBR.out (Nat.le_refl _)) HF.out hn20 hm1 hm2).mono ?_
                rintro e w5 ⟨he, hb5⟩
                rw [HP.out] at he
                subst he
                have HB5 : Hid (Below w2.heap.size w2 w5) := HBR.out.trans (hb5.mono HBR.out.size)
                have HO5 := hide (HO.out.1.below hb5 (Nat.le_refl _))
                clear hb5
                go_wp2_with fail
                refine (zzpasses_any name m (some ⟨w2.heap.size, 0, none⟩) (j + q) n (l.drop c ++ l.take c) w5 HO.out.2 HO5.out (fits_rot HF.out c) (by omega) hm1 hm2).mono ?_
                rintro e w6 ⟨he, hb6⟩
                rw [HPR.out] at he
                subst he
                have HB6 : Hid (Below w.heap.size w w6) := HB.out.trans ((HB5.out.trans (hb6.mono HB5.out.size)).mono HB.out.size)
                clear hb6
                cases b
                all_goals
                  go_wp2
                  go_ret
                  exact ⟨rfl, HB6.out⟩
      · have hdn : decide ((0 : Int) < (n : Int)) = false := by simp; omega
        have hb0 : b = false := by
          have h8 := HWANT.out
          rw [← HLN.out, decide_eq_false hpos, Bool.false_and, HP.out] at h8
          exact h8
        subst hb0
        go_wp2_with (at_make; refine wpList_make_own _ rfl _ _ 22 rfl w2.heap.size 3 i0 (.int .i64 0) 1 Try.underlying22 hi0 hz0 hz1 _ _ _ n rfl rfl rfl (by rw [hz2]; omega) (by unfold maxLen; omega) (Nat.le_refl _) ?_; intro w3 hown3 hgrow3)
        clear hk hlt
        have HB3 : Hid (Below w2.heap.size w2 w3) := (Below.refl _ _).grown hgrow3 (Nat.le_refl _) (by intro k hk; cases hk)
        clear hgrow3
        go_loopw [13, 14] (fun rot i wr => ∃ j : Nat, c + j ≤ n ∧ rot = .slice (some ⟨w2.heap.size, 0, none⟩) j n ∧ i = .int .i64 ((c : Int) + (j : Int)) ∧ wr.ownsRow w2.heap.size 3 1 (.slice (some ⟨w2.heap.size, 0, none⟩) j n) j (((l.drop c).take j).map (Value.int .i64)) ∧ Hid (Below w2.heap.size w2 wr)) (fun _ i _ => n - (intOf i).toNat)
        case atStart => exact ⟨0, by omega, rfl, by simp, by simpa using hown3, HB3⟩
        case round =>
          obtain ⟨j, hj, rfl, rfl, hown, HBR⟩ := hrel
          clear hown3 HB3
          by_cases hlt : c + j < n
          · exfalso; omega
          · obtain rfl : j = r := by omega
            clear hlt hj
            go_wp2
            have hown2 : wr.ownsRow w2.heap.size 3 1 (.slice (some ⟨w2.heap.size, 0, none⟩) j n) j ((l.drop c ++ l.take 0).map (Value.int .i64)) := by
              rw [List.take_of_length_le (by rw [List.length_drop, ← HLN.out]; omega)] at hown
              simpa using hown
            clear hown
            have HBR0 := HBR
            clear HBR
            go_loopw [13, 15] (fun rot i wr => ∃ q : Nat, q ≤ c ∧ rot = .slice (some ⟨w2.heap.size, 0, none⟩) (j + q) n ∧ i = .int .i64 q ∧ wr.ownsRow w2.heap.size 3 1 (.slice (some ⟨w2.heap.size, 0, none⟩) (j + q) n) (j + q) ((l.drop c ++ l.take q).map (Value.int .i64)) ∧ Hid (Below w2.heap.size w2 wr)) (fun _ i _ => c - (intOf i).toNat)
            case atStart => exact ⟨0, by omega, rfl, rfl, hown2, HBR0⟩
            case round =>
              obtain ⟨q, hq, rfl, rfl, hown, HBR⟩ := hrel
              clear hown2 HBR0
              by_cases hlt : q < c
              · exfalso; omega
              · have hqc : q = c := by omega
                have HO : Hid (SliceIs wr (some ⟨w2.heap.size, 0, none⟩) (l.drop c ++ l.take c) ∧ j + q = (l.drop c ++ l.take c).length) := by
                  have h9 := slice_own hown
                  rw [hqc] at h9 ⊢
                  exact h9
                clear hqc hown
                go_wp2_with fail
                refine (zzpasses_any name m (some ⟨w.heap.size, 0, none⟩) n n l wr HLN.out (HR.out.below HBR.out (Nat.le_refl _)) HF.out hn20 hm1 hm2).mono ?_
                rintro e w5 ⟨he, hb5⟩
                rw [HP.out] at he
                subst he
                have HB5 : Hid (Below w2.heap.size w2 w5) := HBR.out.trans (hb5.mono HBR.out.size)
                have HO5 := hide (HO.out.1.below hb5 (Nat.le_refl _))
                clear hb5
                go_wp2_with fail
                refine (zzpasses_any name m (some ⟨w2.heap.size, 0, none⟩) (j + q) n (l.drop c ++ l.take c) w5 HO.out.2 HO5.out (fits_rot HF.out c) (by omega) hm1 hm2).mono ?_
                rintro e w6 ⟨he, hb6⟩
                rw [HPR.out] at he
                subst he
                have HB6 : Hid (Below w.heap.size w w6) := HB.out.trans ((HB5.out.trans (hb6.mono HB5.out.size)).mono HB.out.size)
                clear hb6
                go_wp2
                go_ret
                exact ⟨rfl, HB6.out⟩

set_option maxRecDepth 100000 in
set_option maxHeartbeats 1000000 in
theorem rot_nil (name : ByteArray) (m : Int) (w : World) (h : name.size ≤ 1048576) (hm1 : -9223372036854775808 ≤ m) (hm2 : m ≤ 9223372036854775807) :
    Calls Try.prog 3 #[.string name, .int .i64 m, .slice none 0 0, .int .i64 0] w fun e w' => e = .returned (.bool true) ∧ Below w.heap.size w w' := by
  obtain ⟨i0, hi0, hz0, hz1, hz2⟩ := info_parts Try.info3
  have hnil := fun (wx : World) (a : Option Addr) (n c : Nat) => run_neq_slice_nil_any (P := Try.prog) wx 22 3 a n c 0 0 Try.underlying22
  have h2 : (0 : Int) ≤ (1048576 - (name.size : Int)) / 8 := by omega
  go_enter Try.func3, Try.ntmps3
  go_wp2
  refine wp_loop_rounds 1 ?_
  rw [rounds_succ]
  go_wp2_with (at_make; refine wpList_make_own _ rfl _ _ 22 rfl w.heap.size 3 i0 (.int .i64 0) 1 Try.underlying22 hi0 hz0 hz1 _ _ _ 0 rfl rfl rfl (by omega) (Nat.zero_le _) (Nat.le_refl _) ?_; intro w3 hown3 hgrow3)
  have HB3 : Hid (Below w.heap.size w w3) := (Below.refl _ _).grown hgrow3 (Nat.le_refl _) (by intro k hk; cases hk)
  clear hgrow3 hnil
  refine wp_loop_rounds 1 ?_
  rw [rounds_succ]
  go_wp2
  refine wp_loop_rounds 1 ?_
  rw [rounds_succ]
  go_wp2_with fail
  refine (zzpasses_any name m none 0 0 [] w3 rfl (.inl rfl) (by intro k hk; simp at hk) (by omega) hm1 hm2).mono ?_
  rintro e w5 ⟨rfl, hb5⟩
  have HB5 : Hid (Below w.heap.size w w5) := HB3.out.trans (hb5.mono HB3.out.size)
  clear hb5
  simp only [passB]
  go_wp2_with fail
  refine (zzpasses_any name m (some ⟨w.heap.size, 0, none⟩) 0 0 [] w5 rfl (.inl rfl) (by intro k hk; simp at hk) (by omega) hm1 hm2).mono ?_
  rintro e w6 ⟨rfl, hb6⟩
  have HB6 : Hid (Below w.heap.size w w6) := HB5.out.trans (hb6.mono HB5.out.size)
  clear hb6
  simp only [passB]
  go_wp2
  go_ret
  exact ⟨rfl, HB6.out⟩
end Go.Proofs.Qxb6618302a
