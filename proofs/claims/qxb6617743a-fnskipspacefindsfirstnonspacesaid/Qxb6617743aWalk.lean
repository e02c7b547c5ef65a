import Derived.Test.Qxb6617743aBase
import Derived.WalkSpells
import Derived.Laws.CopyOwn
namespace Go.Proofs.Qxb6617743a
open Go.RowKit

theorem Try.info5 : (Try.prog.info? 5).map (fun i => (i.zero, i.size, i.bytes)) = some (some (.int .u8 0), 1, 1) := by kernel_rfl

theorem splice_whole {α : Type} (L cs : List α) (h : cs.length = L.length) : splice L 0 cs = cs := by
  simp [splice, h]

/-- The first place from i on that is not white, if there is one. -/
theorem first_from (f : Nat → Bool) (i : Nat) : ∀ n, (∀ k, i ≤ k → k < i + n → f k = true) ∨ ∃ r, i ≤ r ∧ r < i + n ∧ f r = false ∧ ∀ k, i ≤ k → k < r → f k = true
  | 0 => .inl fun k h1 h2 => by omega
  | n + 1 => by
    rcases first_from f i n with h | ⟨r, h1, h2, h3, h4⟩
    · cases hf : f (i + n)
      · exact .inr ⟨i + n, by omega, by omega, hf, h⟩
      · refine .inl fun k h1 h2 => ?_
        by_cases e : k = i + n
        · rw [e]; exact hf
        · exact h k h1 (by omega)
    · exact .inr ⟨r, h1, by omega, h3, h4⟩

theorem reads_of {w : World} {g len : Nat} {zs : List Int} (h : w.heap[g]? = some (.cells ((zs.take len).map (Value.int .u8)).toArray 5 (0, 0))) (hl : len ≤ zs.length) : Reads w g len zs := by
  intro k hk
  have h2 : k < zs.length := by omega
  simp [World.cell?, h, hk, h2]

/-- What the copy owes: the source's cells. -/
theorem src_cells {w w1 : World} {x : Addr} {len : Nat} {zs : List Int} (hl : len ≤ zs.length) (hg : w.grownBy w1 none)
    (hcell : ∀ k, k < zs.length → w.cell? (x.add k) = some (.int .u8 (zs.getD k 0))) :
    ∀ k v, ((zs.take len).map (Value.int .u8))[k]? = some v → w1.cell? (x.add k) = some v := by
  intro k v hv
  obtain ⟨h1, h2⟩ := List.getElem?_eq_some_iff.1 hv
  simp at h1 h2
  have h3 := hcell k (by omega)
  have h4 : k < zs.length := by omega
  simp [h4] at h3
  rw [← h2]
  exact hg.cell h3 (by simp)

theorem made_row {w w1 : World} {len : Nat} {xs : List Value} (h : w1.ownsRow w.heap.size 5 1 (.slice (some ⟨w.heap.size, 0, none⟩) len len) len xs) :
    ∃ cur : List Value, cur.length = len ∧ w1.heap[w.heap.size]? = some (.cells cur.toArray 5 (0, 0)) := by
  rcases h.2 with ⟨h1, _⟩ | ⟨g, cp, cur, h1, _, h2, _, _, h3, _⟩
  · cases h1
  · cases h1
    exact ⟨cur.toList, by simpa using h3, by simpa using h2⟩

theorem ints_one (l : List Int) : ∀ v ∈ l.map (Value.int .u8), v.oneCell' = true := by
  intro v hv
  obtain ⟨n, _, rfl⟩ := List.mem_map.1 hv
  rfl

/-- 'zzc := make([]byte, len(b)); copy(zzc, b)': the copy's run. -/
theorem copy_run {w w1 : World} {x : Addr} {len cap : Nat} {zs : List Int} {cur : List Value} (hcur : cur.length = len) (hrow : w1.heap[w.heap.size]? = some (.cells cur.toArray 5 (0, 0)))
    (hl : len ≤ zs.length) (hg : w.grownBy w1 none) (hcell : ∀ k, k < zs.length → w.cell? (x.add k) = some (.int .u8 (zs.getD k 0))) :
    ∃ w2, (Builtin.copy_ #[22, 22] 3 #[.slice (some ⟨w.heap.size, 0, none⟩) len len, .slice (some x) len cap]).run Try.prog w1 = .ok (.int .i64 len) w2 ∧ Reads w2 w.heap.size len zs ∧ Below w.heap.size w w2 := by
  obtain ⟨i0, hi0, hz0, hz1, hz2⟩ := info_parts Try.info5
  have hlen : ((zs.take len).map (Value.int .u8)).length = len := by simp; omega
  have hrun := run_copy_row (P := Try.prog) w1 22 22 3 5 w.heap.size 0 len len x len cap cur.toArray 5 ((zs.take len).map (Value.int .u8)) Try.underlying22 (by rw [hi0]; simp [hz1]) hrow (by rw [hlen]; simp)
    (src_cells hl hg hcell) (by rw [hlen]; simp; omega) (ints_one _)
  rw [hlen] at hrun
  refine ⟨_, hrun, ?_, below_setRow ((Below.refl _ _).grown hg (Nat.le_refl _) (by intro k hk; cases hk)) (Nat.le_refl _) _⟩
  refine reads_of ?_ hl
  rw [setRow_heap _ _ _ _ _ _ hrow]
  simp [hcur]

set_option maxHeartbeats 1000000 in
theorem walk_main (x : Addr) (len cap : Nat) (zs : List Int) (i : Nat) (j : Int) (w : World) (hlc : len ≤ cap) (hz : zs.length = cap)
    (hcell : ∀ k, k < zs.length → w.cell? (x.add k) = some (.int .u8 (zs.getD k 0))) (hl : len ≤ 1048576) (hi : i < len) :
    Calls Try.prog 3 #[.slice (some x) len cap, .int .i64 i, .int .i64 j] w fun e w' => e = .returned (.bool true) ∧ Below w.heap.size w w' := by
  obtain ⟨i0, hi0, hz0, hz1, hz2⟩ := info_parts Try.info5
  have hnil := fun (wx : World) (a : Option Addr) (n c : Nat) => run_neq_slice_nil_any (P := Try.prog) wx 22 5 a n c 0 0 Try.underlying22
  have HC : Hid (∀ k, k < zs.length → w.cell? (x.add k) = some (.int .u8 (zs.getD k 0))) := hcell
  clear hcell
  have hd1 : decide ((i : Int) < 0) = false := by simp
  have hd2 : decide ((1048576 : Int) < (len : Int)) = false := by simp; omega
  have HZ : Hid (zs.length = cap) := hz
  clear hz
  have hff : (∀ k, i ≤ k → k < len → ws (zs.getD k 0) = true) ∨ ∃ r, i ≤ r ∧ r < len ∧ ws (zs.getD r 0) = false ∧ ∀ k, i ≤ k → k < r → ws (zs.getD k 0) = true := by
    have := first_from (fun k => ws (zs.getD k 0)) i (len - i)
    rwa [show i + (len - i) = len by omega] at this
  have HF : Hid _ := hff
  clear hff
  go_enter Try.func3, Try.ntmps3
  go_wp2_with (first
    | (at_make; refine wpList_make_full _ rfl _ _ 22 rfl w.heap.size 5 i0 (.int .u8 0) 1 Try.underlying22 hi0 hz0 hz1 _ _ _ _ len rfl rfl rfl rfl (by rw [hz2]; omega) (by unfold maxLen; omega) (Nat.le_refl _) ?_; intro w1 hown1 hgrow1; obtain ⟨cur, hcur, hrow⟩ := made_row hown1; obtain ⟨w2, hcopy, hreads, hbel⟩ := copy_run (cap := cap) hcur hrow (by rw [HZ.out]; exact hlc) hgrow1 HC.out; have HR : Hid (Reads w2 w.heap.size len zs) := hreads; clear hown1 hgrow1 hcur hrow hreads)
    | (go_at_call 4; go_in))
  have hi1 := hi
  clear hnil hi0 hz0 hz1 hz2 HC HZ hcopy
  rcases HF.out with hall | ⟨r, hr1, hr2, hr3, hr4⟩
  · have HA : Hid (∀ k, i ≤ k → k < len → ws (zs.getD k 0) = true) := hall
    clear hall HF
    go_loop [8, 9] (fun c t => ∃ k : Nat, i ≤ k ∧ k ≤ len ∧ t = .int .i64 k ∧ c = .int .i64 0) (fun _ t => len - (intOf t).toNat)
    case atStart => exact ⟨i, Nat.le_refl _, by omega, rfl, rfl⟩
    case round =>
      obtain ⟨k, hk1, hk2, rfl, rfl⟩ := hrel
      by_cases hlt : k < len
      · have hcell := HR.out k hlt
        have hwk := HA.out k hk1 hlt
        generalize zs.getD k 0 = c at *
        go_wp2_with (go_at_call 5; refine (zzWhite_any _ _).mono ?_; rintro e w' ⟨rfl, rfl⟩)
        go_round
        case rel => exact ⟨k + 1, by omega, by omega, by go_num, rfl⟩
        case measure => simp [intOf]; omega
      · go_wp2
        go_ret
        exact ⟨rfl, hbel⟩
  · have HW : Hid (∀ k, i ≤ k → k < r → ws (zs.getD k 0) = true) := hr4
    have HN : Hid (ws (zs.getD r 0) = false) := hr3
    clear hr3 hr4 HF
    go_loop [8, 9] (fun c t => ∃ k m : Nat, i ≤ k ∧ k ≤ len ∧ m ≤ k ∧ (r < k → 0 < m) ∧ t = .int .i64 k ∧ c = .int .i64 m) (fun _ t => len - (intOf t).toNat)
    case atStart => exact ⟨i, 0, Nat.le_refl _, by omega, by omega, by omega, rfl, rfl⟩
    case round =>
      obtain ⟨k, m, hk1, hk2, hm1, hm2, rfl, rfl⟩ := hrel
      by_cases hlt : k < len
      · have hcell := HR.out k hlt
        by_cases hkr : k = r
        · have hwk := HN.out
          rw [← hkr] at hwk
          generalize zs.getD k 0 = c at *
          clear hkr
          go_wp2_with (go_at_call 5; refine (zzWhite_any _ _).mono ?_; rintro e w' ⟨rfl, rfl⟩)
          go_round
          case rel => exact ⟨k + 1, m + 1, by omega, by omega, by omega, by omega, by go_num, by go_num⟩
          case measure => simp [intOf]; omega
        · generalize zs.getD k 0 = c at *
          cases hwk : ws c
          all_goals
            go_wp2_with (go_at_call 5; refine (zzWhite_any _ _).mono ?_; rintro e w' ⟨rfl, rfl⟩)
            go_round
            case rel => first | exact ⟨k + 1, m + 1, by omega, by omega, by omega, by omega, by go_num, by go_num⟩ | exact ⟨k + 1, m, by omega, by omega, by omega, by omega, by go_num, by go_num⟩
            case measure => simp [intOf]; omega
      · have hm : ((m : Int) == 0) = false := by
          have := hm2 (by omega)
          simp; omega
        clear hm2
        obtain ⟨c, hcr, hwr⟩ : ∃ c, w2.cell? ⟨w.heap.size, r, none⟩ = some (.int .u8 c) ∧ ws c = false := ⟨_, HR.out r (by omega), HN.out⟩
        have hq1 : decide ((r : Int) < (i : Int)) = false := by simp; omega
        have hq2 : decide ((len : Int) ≤ (r : Int)) = false := by simp; omega
        have hneq : ((r : Int) != (r : Int)) = false := by simp
        go_wp2_with (first
          | (go_at_call 6; refine (zzskip_any w.heap.size len len i r zs w2 HR.out hl hr1 hr2 HW.out HN.out).mono ?_; rintro e w' ⟨rfl, rfl⟩)
          | (go_at_call 5; refine (zzWhite_any _ _).mono ?_; rintro e w' ⟨rfl, rfl⟩))
        clear hcr hwr
        go_loop [11] (fun t => ∃ q : Nat, i ≤ q ∧ q ≤ r ∧ t = .int .i64 q) (fun t => r - (intOf t).toNat)
        case atStart => exact ⟨i, Nat.le_refl _, hr1, rfl⟩
        case round =>
          obtain ⟨q, hq1, hq2, rfl⟩ := hrel
          by_cases hqr : q < r
          · obtain ⟨c, hcr, hwr⟩ : ∃ c, w2.cell? ⟨w.heap.size, q, none⟩ = some (.int .u8 c) ∧ ws c = true := ⟨_, HR.out q (by omega), HW.out q hq1 hqr⟩
            go_wp2_with (go_at_call 5; refine (zzWhite_any _ _).mono ?_; rintro e w' ⟨rfl, rfl⟩)
            go_round
            case rel => exact ⟨q + 1, by omega, by omega, by go_num⟩
            case measure => simp [intOf]; omega
          · have HR2 : Hid (Reads w2 w.heap.size (r + 1) zs) := fun k hk => HR.out k (by omega)
            by_cases hj : (i : Int) ≤ j ∧ j ≤ (r : Int)
            · obtain ⟨hj1, hj2⟩ := hj
              obtain ⟨jn, rfl⟩ := Int.eq_ofNat_of_zero_le (show 0 ≤ j by omega)
              have hdj : decide ((i : Int) ≤ (jn : Int)) = true := by simpa using hj1
              go_wp2_with fail
              refine (zzskip_any w.heap.size len len jn r zs w2 HR.out hl (by omega) hr2 (fun k h1 h2 => HW.out k (by omega) h2) HN.out).mono ?_
              rintro e w' ⟨rfl, rfl⟩
              go_wp2_with fail
              refine (zzskip_any w.heap.size (r + 1) len i r zs w2 HR2.out (by omega) hr1 (by omega) HW.out HN.out).mono ?_
              rintro e w' ⟨rfl, rfl⟩
              go_wp2
              go_ret
              exact ⟨rfl, hbel⟩
            · by_cases hj1 : (i : Int) ≤ j
              · have hdj : decide ((i : Int) ≤ j) = true := by simpa using hj1
                have hdj2 : decide (j ≤ (r : Int)) = false := by simp; omega
                go_wp2_with fail
                refine (zzskip_any w.heap.size (r + 1) len i r zs w2 HR2.out (by omega) hr1 (by omega) HW.out HN.out).mono ?_
                rintro e w' ⟨rfl, rfl⟩
                go_wp2
                go_ret
                exact ⟨rfl, hbel⟩
              · have hdj : decide ((i : Int) ≤ j) = false := by simpa using hj1
                go_wp2_with fail
                refine (zzskip_any w.heap.size (r + 1) len i r zs w2 HR2.out (by omega) hr1 (by omega) HW.out HN.out).mono ?_
                rintro e w' ⟨rfl, rfl⟩
                go_wp2
                go_ret
                exact ⟨rfl, hbel⟩

/-- Whatever else comes: the law's guards return true at once. -/
theorem walk_long (a : Option Addr) (len cap : Nat) (i j : Int) (w : World) (hl : 1048576 < len) (hm : len ≤ maxLen) :
    Calls Try.prog 3 #[.slice a len cap, .int .i64 i, .int .i64 j] w fun e w' => e = .returned (.bool true) ∧ Below w.heap.size w w' := by
  unfold maxLen at hm
  go_enter Try.func3, Try.ntmps3
  go_wp2
  go_ret
  exact ⟨rfl, Below.refl _ _⟩

theorem walk_out (a : Option Addr) (len cap : Nat) (i j : Int) (w : World) (hl : len ≤ 1048576) (hi : i < 0 ∨ (len : Int) ≤ i) :
    Calls Try.prog 3 #[.slice a len cap, .int .i64 i, .int .i64 j] w fun e w' => e = .returned (.bool true) ∧ Below w.heap.size w w' := by
  by_cases h : i < 0
  · go_enter Try.func3, Try.ntmps3
    go_wp2
    go_ret
    exact ⟨rfl, Below.refl _ _⟩
  · have h2 : (len : Int) ≤ i := by omega
    clear hi
    go_enter Try.func3, Try.ntmps3
    go_wp2
    go_ret
    exact ⟨rfl, Below.refl _ _⟩
end Go.Proofs.Qxb6617743a
