import Derived.Test.Qxb6618302aRot
namespace Go.Proofs.Qxb6618302a
open Go.RowKit

theorem wrap_under {m x : Int} (h1 : -9223372036854775808 ≤ m) (h2 : m ≤ 9223372036854775807) (h3 : 0 ≤ x) (h4 : x ≤ 9223372036854775807) (h5 : m - x < -9223372036854775808) : ∃ q, wrap64 (m - x) = q ∧ m < q := by
  refine ⟨_, rfl, ?_⟩
  unfold wrap64
  omega

theorem fits_one {x : Int} (h1 : 0 ≤ x) (h2 : x ≤ 9223372036854775807) : Fits [x] := fits_mem.2 fun d hd => by simp at hd; omega

section
variable (name : ByteArray) (m at_ extra : Int) (a : Option Addr) (n cap : Nat) (w : World)

theorem more_g1 (h : 1048576 < name.size + n) (hm : name.size ≤ maxLen) (hm2 : n ≤ maxLen) :
    Calls Try.prog 4 #[.string name, .int .i64 m, .slice a n cap, .int .i64 at_, .int .i64 extra] w fun e w' => e = .returned (.bool true) ∧ Below w.heap.size w w' := by
  unfold maxLen at hm hm2
  by_cases h1 : 1048576 < name.size
  · go_enter Try.func4, Try.ntmps4
    go_wp2
    go_ret
    exact ⟨rfl, Below.refl _ _⟩
  · by_cases h2 : 1048576 < n
    · go_enter Try.func4, Try.ntmps4
      go_wp2
      go_ret
      exact ⟨rfl, Below.refl _ _⟩
    · go_enter Try.func4, Try.ntmps4
      go_wp2
      go_ret
      exact ⟨rfl, Below.refl _ _⟩

theorem more_g2 (h : name.size + n ≤ 1048576) (h2 : (1048576 - (name.size : Int)) / 8 - 1 < (n : Int)) :
    Calls Try.prog 4 #[.string name, .int .i64 m, .slice a n cap, .int .i64 at_, .int .i64 extra] w fun e w' => e = .returned (.bool true) ∧ Below w.heap.size w w' := by
  go_enter Try.func4, Try.ntmps4
  go_wp2
  go_ret
  exact ⟨rfl, Below.refl _ _⟩

theorem more_g3 (h : name.size + n ≤ 1048576) (h2 : (n : Int) ≤ (1048576 - (name.size : Int)) / 8 - 1) (h3 : n = 0) :
    Calls Try.prog 4 #[.string name, .int .i64 m, .slice a n cap, .int .i64 at_, .int .i64 extra] w fun e w' => e = .returned (.bool true) ∧ Below w.heap.size w w' := by
  subst h3
  go_enter Try.func4, Try.ntmps4
  go_wp2
  go_ret
  exact ⟨rfl, Below.refl _ _⟩

theorem more_g4 (h : name.size + n ≤ 1048576) (h2 : (n : Int) ≤ (1048576 - (name.size : Int)) / 8 - 1) (h3 : 0 < n) (h4 : at_ < 0 ∨ (n : Int) < at_) :
    Calls Try.prog 4 #[.string name, .int .i64 m, .slice a n cap, .int .i64 at_, .int .i64 extra] w fun e w' => e = .returned (.bool true) ∧ Below w.heap.size w w' := by
  have hne : ((n : Int) == 0) = false := by simp; omega
  by_cases h5 : at_ < 0
  · have hd : decide (at_ < 0) = true := by simpa using h5
    clear h4
    go_enter Try.func4, Try.ntmps4
    go_wp2
    go_ret
    exact ⟨rfl, Below.refl _ _⟩
  · have hd : decide (at_ < 0) = false := by simpa using h5
    have hd2 : decide ((n : Int) < at_) = true := by simp; omega
    clear h4
    go_enter Try.func4, Try.ntmps4
    go_wp2
    go_ret
    exact ⟨rfl, Below.refl _ _⟩

theorem more_g5 (h : name.size + n ≤ 1048576) (h2 : (n : Int) ≤ (1048576 - (name.size : Int)) / 8 - 1) (h3 : 0 < n) (h4 : 0 ≤ at_) (h5 : at_ ≤ (n : Int)) (h6 : extra < 0) :
    Calls Try.prog 4 #[.string name, .int .i64 m, .slice a n cap, .int .i64 at_, .int .i64 extra] w fun e w' => e = .returned (.bool true) ∧ Below w.heap.size w w' := by
  have hne : ((n : Int) == 0) = false := by simp; omega
  have hd : decide (at_ < 0) = false := by simp; omega
  have hd2 : decide ((n : Int) < at_) = false := by simp; omega
  go_enter Try.func4, Try.ntmps4
  go_wp2
  go_ret
  exact ⟨rfl, Below.refl _ _⟩
end

set_option maxRecDepth 100000 in
set_option maxHeartbeats 2000000 in
theorem more_main (name : ByteArray) (m extra : Int) (x : Addr) (n cap c r : Nat) (zs : List Int) (w : World) (h : name.size + n ≤ 1048576) (h2 : (n : Int) ≤ (1048576 - (name.size : Int)) / 8 - 1) (h3 : 0 < n)
    (hr1 : c + r ≤ n) (hr2 : n ≤ c + r) (hnz : n ≤ zs.length) (hcell : ∀ k, k < zs.length → w.cell? (x.add k) = some (.int .i64 (zs.getD k 0))) (hin : InInt (zs.take n))
    (hm1 : -9223372036854775808 ≤ m) (hm2 : m ≤ 9223372036854775807) (he1 : 0 ≤ extra) (he2 : extra ≤ 9223372036854775807) :
    Calls Try.prog 4 #[.string name, .int .i64 m, .slice (some x) n cap, .int .i64 c, .int .i64 extra] w fun e w' => e = .returned (.bool true) ∧ Below w.heap.size w w' := by
  obtain ⟨i0, hi0, hz0, hz1, hz2⟩ := info_parts Try.info3
  have hnil := fun (wx : World) (a : Option Addr) (n c : Nat) => run_neq_slice_nil_any (P := Try.prog) wx 22 3 a n c 0 0 Try.underlying22
  have HC := hide hcell
  have HZ := hide hnz
  have HIN := hide hin
  have HLN : Hid (n = (zs.take n).length) := by rw [Hid, List.length_take]; omega
  clear hcell hnz hin
  have hne : ((n : Int) == 0) = false := by simp; omega
  have hd : decide ((c : Int) < 0) = false := by simp
  have hd2 : decide ((n : Int) < (c : Int)) = false := by simp; omega
  by_cases hund : m - extra < -9223372036854775808
  · obtain ⟨q, hq, hmq⟩ := wrap_under hm1 hm2 he1 he2 hund
    clear hund
    go_enter Try.func4, Try.ntmps4
    go_wp2_with (first
      | (at_make; refine wpList_make_full _ rfl _ _ 22 rfl w.heap.size 3 i0 (.int .i64 0) 1 Try.underlying22 hi0 hz0 hz1 _ _ _ _ n rfl rfl rfl rfl (by rw [hz2]; omega) (by unfold maxLen; omega) (Nat.le_refl _) ?_; intro w1 hown1 hgrow1; obtain ⟨cur, hcur, hrow⟩ := made_row hown1; obtain ⟨w2, hcopy, hreads, hbel⟩ := copy_run (cap := cap) hcur hrow HZ.out hgrow1 HC.out; have HB := hide hbel; clear hown1 hgrow1 hcur hrow hreads hbel)
      | (go_at_call 8; go_in))
    go_ret
    exact ⟨rfl, HB.out⟩
  go_enter Try.func4, Try.ntmps4
  go_wp2_with (first
    | (at_make; refine wpList_make_full _ rfl _ _ 22 rfl w.heap.size 3 i0 (.int .i64 0) 1 Try.underlying22 hi0 hz0 hz1 _ _ _ _ n rfl rfl rfl rfl (by rw [hz2]; omega) (by unfold maxLen; omega) (Nat.le_refl _) ?_; intro w1 hown1 hgrow1; obtain ⟨cur, hcur, hrow⟩ := made_row hown1; obtain ⟨w2, hcopy, hreads, hbel⟩ := copy_run (cap := cap) hcur hrow HZ.out hgrow1 HC.out; have HR := hide hreads; have HB := hide hbel; clear hown1 hgrow1 hcur hrow hreads hbel)
    | (go_at_call 8; go_in))
  clear hnil hcopy
  generalize zs.take n = l at *
  clear HC HZ
  go_loop [13] (fun i => ∃ k : Nat, k ≤ n ∧ i = .int .i64 k ∧ Hid (∀ j, j < k → 0 ≤ l.getD j 0)) (fun i => n - (intOf i).toNat)
  case atStart => exact ⟨0, Nat.zero_le _, rfl, fun j hj => absurd hj (by omega)⟩
  case round =>
    obtain ⟨k, hk, rfl, HNN⟩ := hrel
    by_cases hlt : k < n
    · obtain ⟨d, hdd, hcell⟩ := HR.out.lit (k := k) (by rw [← HLN.out]; exact hlt)
      have HDD := hide hdd
      clear hdd
      by_cases hneg : d < 0
      · go_wp2
        go_ret
        exact ⟨rfl, HB.out⟩
      · go_wp2
        go_round
        case rel =>
          refine ⟨k + 1, by omega, by go_num, fun j hj => ?_⟩
          by_cases e : j = k
          · rw [e, ← HDD.out]; omega
          · exact HNN.out j (by omega)
        case measure => simp [intOf]; omega
    · have HF : Hid (Fits l) := fun j hj => ⟨HNN.out j (by have := HLN.out; omega), HIN.out j hj⟩
      have hn20 : n + 1 ≤ 1048576 := by omega
      obtain ⟨b, hb⟩ : ∃ b, decide (m ≤ extra + tot l) = b := ⟨_, rfl⟩
      have HT := hide hb
      have HPM : Hid (passB m (l.take c ++ [extra] ++ l.drop c) = b) := (pass_more l c m extra HF.out.nonneg he1).trans hb
      have HPL : Hid (passB (m - extra) l = b) := (pass_lower l m extra HF.out.nonneg (fun e => by have h9 := HLN.out; rw [e] at h9; simp at h9; omega)).trans hb
      clear HNN HIN hb
      go_wp2_with (first
        | (go_at_call 6; refine (total_any (some ⟨w.heap.size, 0, none⟩) n n l extra m w2 HLN.out HR.out HF.out (by omega) he1 he2 hm2).mono ?_; rintro e w' ⟨he, rfl⟩; rw [HT.out] at he; subst he)
        | (at_make; refine wpList_make_own _ rfl _ _ 22 rfl w2.heap.size 3 i0 (.int .i64 0) 1 Try.underlying22 hi0 hz0 hz1 _ _ _ (n + 1) rfl rfl (by omega) (by rw [hz2]; omega) (by unfold maxLen; omega) (Nat.le_refl _) ?_; intro w3 hown3 hgrow3))
      clear hk hlt
      have HB3 : Hid (Below w2.heap.size w2 w3) := (Below.refl _ _).grown hgrow3 (Nat.le_refl _) (by intro k hk; cases hk)
      clear hgrow3
      go_loopw [15, 16] (fun rot i wr => ∃ j : Nat, j ≤ c ∧ rot = .slice (some ⟨w2.heap.size, 0, none⟩) j (n + 1) ∧ i = .int .i64 j ∧ wr.ownsRow w2.heap.size 3 1 (.slice (some ⟨w2.heap.size, 0, none⟩) j (n + 1)) j ((l.take j).map (Value.int .i64)) ∧ Hid (Below w2.heap.size w2 wr)) (fun _ i _ => c - (intOf i).toNat)
      case atStart => exact ⟨0, by omega, rfl, by simp, by simpa using hown3, HB3⟩
      case round =>
        obtain ⟨j, hj, rfl, rfl, hown, HBR⟩ := hrel
        clear hown3 HB3
        by_cases hlt : j < c
        · obtain ⟨d, hdd, hcell⟩ := (HR.out.below HBR.out (Nat.le_refl _)).lit (k := j) (by rw [← HLN.out]; omega)
          have HDD := hide hdd
          clear hdd
          go_wp2_with (at_builtin; refine wpList_append_fits _ rfl _ _ 22 rfl w2.heap.size 3 i0 1 Try.underlying22 hi0 hz1 w2.heap.size j (n + 1) _ rfl (hown.alloc _) ⟨wr.heap.size, 0, none⟩ 1 1 [.int .i64 d] rfl rfl (cell_one_new _ _ _) (ints_oneCell .i64 [d]) (by omega) ?_; intro w4 hown4 hgrow4)
          have HO : Hid (w4.ownsRow w2.heap.size 3 1 (.slice (some ⟨w2.heap.size, 0, none⟩) (j + 1) (n + 1)) (j + 1) ((l.take (j + 1)).map (Value.int .i64))) := by
            rw [take_snoc0 l j (by rw [← HLN.out]; omega), ← HDD.out, List.map_append]; exact hown4
          have HB4 : Hid (Below w2.heap.size w2 w4) := (HBR.out.alloc HBR.out.size _).grown hgrow4 (by have := HBR.out.size; simp; omega) (by intro k hk; cases hk; exact Nat.le_refl _)
          clear hown4 hgrow4 hcell hown
          go_wp2
          go_roundw
          case rel => exact ⟨j + 1, by omega, rfl, by go_num, HO.out, HB4⟩
          case measure => simp [intOf]; omega
        · have hjc : j = c := by omega
          have HO0 : Hid (wr.ownsRow w2.heap.size 3 1 (.slice (some ⟨w2.heap.size, 0, none⟩) j (n + 1)) j ((l.take c).map (Value.int .i64))) := by
            have h9 := hown
            rw [hjc] at h9 ⊢
            exact h9
          clear hown
          have hown := HO0.out
          have hj1 : j ≤ c := by omega
          have hj2 : c ≤ j := by omega
          clear hjc HO0
          go_wp2_with (at_builtin; refine wpList_append_fits _ rfl _ _ 22 rfl w2.heap.size 3 i0 1 Try.underlying22 hi0 hz1 w2.heap.size j (n + 1) _ rfl (hown.alloc _) ⟨wr.heap.size, 0, none⟩ 1 1 [.int .i64 extra] rfl rfl (cell_one_new _ _ _) (ints_oneCell .i64 [extra]) (by omega) ?_; intro w4 hown4 hgrow4)
          have HO1 : Hid (w4.ownsRow w2.heap.size 3 1 (.slice (some ⟨w2.heap.size, 0, none⟩) (j + 1) (n + 1)) (j + 1) ((l.take c ++ [extra] ++ (l.drop c).take 0).map (Value.int .i64))) := by
            rw [List.take_zero, List.append_nil, List.map_append]; exact hown4
          have HB4 : Hid (Below w2.heap.size w2 w4) := (HBR.out.alloc HBR.out.size _).grown hgrow4 (by have := HBR.out.size; simp; omega) (by intro k hk; cases hk; exact Nat.le_refl _)
          clear hown4 hgrow4 hown HBR
          go_wp2
          go_loopw [15, 17] (fun rot i wr => ∃ q : Nat, c + q ≤ n ∧ rot = .slice (some ⟨w2.heap.size, 0, none⟩) (j + 1 + q) (n + 1) ∧ i = .int .i64 ((c : Int) + (q : Int)) ∧ wr.ownsRow w2.heap.size 3 1 (.slice (some ⟨w2.heap.size, 0, none⟩) (j + 1 + q) (n + 1)) (j + 1 + q) ((l.take c ++ [extra] ++ (l.drop c).take q).map (Value.int .i64)) ∧ Hid (Below w2.heap.size w2 wr)) (fun _ i _ => n - (intOf i).toNat)
          case atStart => exact ⟨0, by omega, rfl, by simp, HO1.out, HB4⟩
          case round =>
            obtain ⟨q, hq, rfl, rfl, hown, HBR⟩ := hrel
            clear HO1 HB4
            by_cases hlt : c + q < n
            · obtain ⟨d, hdd, hcell⟩ := (HR.out.below HBR.out (Nat.le_refl _)).lit (k := c + q) (by rw [← HLN.out]; omega)
              have HDD := hide hdd
              clear hdd
              go_wp2_with (at_builtin; refine wpList_append_fits _ rfl _ _ 22 rfl w2.heap.size 3 i0 1 Try.underlying22 hi0 hz1 w2.heap.size (j + 1 + q) (n + 1) _ rfl (hown.alloc _) ⟨wr.heap.size, 0, none⟩ 1 1 [.int .i64 d] rfl rfl (cell_one_new _ _ _) (ints_oneCell .i64 [d]) (by omega) ?_; intro w4 hown4 hgrow4)
              have HO : Hid (w4.ownsRow w2.heap.size 3 1 (.slice (some ⟨w2.heap.size, 0, none⟩) (j + 1 + q + 1) (n + 1)) (j + 1 + q + 1) ((l.take c ++ [extra] ++ (l.drop c).take (q + 1)).map (Value.int .i64))) := by
                rw [take_snoc l c q (by rw [← HLN.out]; omega), ← HDD.out, ← List.append_assoc, List.map_append]; exact hown4
              have HB5 : Hid (Below w2.heap.size w2 w4) := (HBR.out.alloc HBR.out.size _).grown hgrow4 (by have := HBR.out.size; simp; omega) (by intro k hk; cases hk; exact Nat.le_refl _)
              clear hown4 hgrow4 hcell hown
              go_wp2
              go_roundw
              case rel => exact ⟨q + 1, by omega, rfl, by go_num, HO.out, HB5⟩
              case measure => simp [intOf]; omega
            · have HO : Hid (SliceIs wr (some ⟨w2.heap.size, 0, none⟩) (l.take c ++ [extra] ++ l.drop c) ∧ j + 1 + q = (l.take c ++ [extra] ++ l.drop c).length) := by
                have h9 := slice_own hown
                have ht : (l.drop c).take q = l.drop c := List.take_of_length_le (by rw [List.length_drop, ← HLN.out]; omega)
                rw [ht] at h9
                exact h9
              clear hown
              go_wp2_with fail
              refine (zzpasses_any name m (some ⟨w2.heap.size, 0, none⟩) (j + 1 + q) (n + 1) (l.take c ++ [extra] ++ l.drop c) wr HO.out.2 HO.out.1 (fits_append (fits_append (fits_take HF.out c) (fits_one he1 he2)) (fits_drop HF.out c)) (by omega) hm1 hm2).mono ?_
              rintro e w5 ⟨he, hb5⟩
              rw [HPM.out] at he
              subst he
              have HB5 : Hid (Below w2.heap.size w2 w5) := HBR.out.trans (hb5.mono HBR.out.size)
              clear hb5
              go_wp2_with fail
              refine (zzpasses_any name (m - extra) (some ⟨w.heap.size, 0, none⟩) n n l w5 HLN.out (HR.out.below HB5.out (Nat.le_refl _)) HF.out (by omega) (by omega) (by omega)).mono ?_
              rintro e w6 ⟨he, hb6⟩
              rw [HPL.out] at he
              subst he
              have HB6 : Hid (Below w.heap.size w w6) := HB.out.trans ((HB5.out.trans (hb6.mono HB5.out.size)).mono HB.out.size)
              clear hb6
              cases b
              all_goals
                go_wp2
                go_ret
                exact ⟨rfl, HB6.out⟩
end Go.Proofs.Qxb6618302a
