import Derived.Test.Qxb6618302aBase
namespace Go.Proofs.Qxb6618302a
open Go.RowKit

theorem total_low (a : Option Addr) (n cap : Nat) (extra least : Int) (w : World) (h : least ≤ 0) :
    Calls Try.prog 6 #[.slice a n cap, .int .i64 extra, .int .i64 least] w fun e w' => e = .returned (.bool true) ∧ w = w' := by
  go_enter Try.func6, Try.ntmps6
  go_wp2
  go_ret
  exact ⟨rfl, rfl⟩

theorem wrap_carry {lo x : Int} (h0 : 0 ≤ lo) (h1 : lo < two64) (h2 : 0 ≤ x) (h3 : x < two64) (hs : ¬ lo + x < two64) : ∃ nx, IntKind.wrap .u64 (lo + x) = nx ∧ 0 ≤ nx ∧ nx < lo ∧ nx = lo + x - two64 := by
  refine ⟨_, rfl, ?_⟩
  simp only [IntKind.wrap_u64]
  unfold two64 at *
  omega

set_option maxHeartbeats 1000000 in
theorem total_high (a : Option Addr) (n cap : Nat) (l : List Int) (extra least : Int) (w : World) (hn : n = l.length) (hs : SliceIs w a l) (hf : Fits l) (hl : n ≤ 1048576)
    (he1 : 0 ≤ extra) (he2 : extra ≤ 9223372036854775807) (h1 : 0 < least) (h2 : least ≤ 9223372036854775807) :
    Calls Try.prog 6 #[.slice a n cap, .int .i64 extra, .int .i64 least] w fun e w' => e = .returned (.bool (decide (least ≤ extra + tot l))) ∧ w = w' := by
  have HS := hide hs
  have HF := hide hf
  have HN := hide hn
  clear hs hf hn
  have hdl : decide (least ≤ 0) = false := by simp; omega
  go_enter Try.func6, Try.ntmps6
  go_wp2
  go_loop [7, 8, 9] (fun h o i => ∃ (k : Nat) (hi lo : Int), k ≤ n ∧ h = .int .u64 hi ∧ o = .int .u64 lo ∧ i = .int .i64 k ∧ 0 ≤ hi ∧ hi ≤ k ∧ 0 ≤ lo ∧ lo ≤ 18446744073709551615 ∧ Hid (Word2 hi lo (extra + tot (l.take k)))) (fun _ _ i => n - (intOf i).toNat)
  case atStart => exact ⟨0, 0, extra, Nat.zero_le _, rfl, rfl, rfl, by omega, by omega, he1, by omega, by simp only [Hid, Word2, two64, tot, List.take_zero]; omega⟩
  case round =>
    obtain ⟨k, hi, lo, hk, rfl, rfl, rfl, hi0, hi1, lo0, lo1, HW⟩ := hrel
    by_cases hlt : k < n
    · obtain ⟨x, d, rfl, hd, hcell⟩ := HS.out.at (k := k) (by rw [← HN.out]; exact hlt)
      have hfd := HF.out k (by rw [← HN.out]; exact hlt)
      rw [← hd] at hfd
      have ht := tot_take l k (by rw [← HN.out]; exact hlt)
      rw [← hd] at ht
      have HT := hide ht
      obtain ⟨hd0, hd1⟩ := hfd
      clear hd ht
      by_cases hc : lo + d < two64
      · have HW2 : Hid (Word2 hi (lo + d) (extra + tot (l.take (k + 1)))) := by
          rw [Hid, HT.out, ← Int.add_assoc]; exact HW.out.plain hd0 hc
        have hc' : lo + d ≤ 18446744073709551615 := by unfold two64 at hc; omega
        clear hc
        go_wp2
        go_round
        case rel => exact ⟨k + 1, hi, lo + d, by omega, rfl, rfl, by go_num, hi0, by omega, by omega, hc', HW2⟩
        case measure => simp [intOf]; omega
      · obtain ⟨nx, hnx, nx0, nx1, hnq⟩ := wrap_carry lo0 (by unfold two64; omega) hd0 (by unfold two64; omega) hc
        have HW2 : Hid (Word2 (hi + 1) nx (extra + tot (l.take (k + 1)))) := by
          rw [Hid, HT.out, ← Int.add_assoc, hnq]; exact HW.out.carry (by unfold two64; omega) hc
        clear hc hnq
        go_wp2
        go_round
        case rel => exact ⟨k + 1, hi + 1, nx, by omega, rfl, rfl, by go_num, by omega, by omega, nx0, by omega, HW2⟩
        case measure => simp [intOf]; omega
    · have HW2 : Hid (Word2 hi lo (extra + tot l)) := by
        have h8 := HW.out
        rw [List.take_of_length_le (by rw [← HN.out]; omega)] at h8
        exact h8
      by_cases hp : 0 < hi
      · have hdp : decide (0 < hi) = true := by simpa using hp
        have HD := hide (HW2.out.big hp h2)
        go_wp2
        go_ret
        exact ⟨by rw [HD.out]; rfl, rfl⟩
      · have hdp : decide (0 < hi) = false := by simpa using hp
        have HD := hide (HW2.out.small hp)
        go_wp2
        go_ret
        exact ⟨by rw [HD.out]; rfl, rfl⟩

theorem total_any (a : Option Addr) (n cap : Nat) (l : List Int) (extra least : Int) (w : World) (hn : n = l.length) (hs : SliceIs w a l) (hf : Fits l) (hl : n ≤ 1048576)
    (he1 : 0 ≤ extra) (he2 : extra ≤ 9223372036854775807) (h2 : least ≤ 9223372036854775807) :
    Calls Try.prog 6 #[.slice a n cap, .int .i64 extra, .int .i64 least] w fun e w' => e = .returned (.bool (decide (least ≤ extra + tot l))) ∧ w = w' := by
  by_cases h1 : 0 < least
  · exact total_high a n cap l extra least w hn hs hf hl he1 he2 h1 h2
  · have := tot_nonneg hf.nonneg
    rw [decide_eq_true (show least ≤ extra + tot l by omega)]
    exact total_low a n cap extra least w (by omega)
end Go.Proofs.Qxb6618302a
