import Derived.Test.Qxb6616888aSeen
namespace Go.Proofs.Qxb6616888a
open Go.RowKit Go.MapKept Go.ChangeMaps

theorem IsRows4.below {B : Nat} {w w' : World} {a : Option Addr} {l : List E4} (h : IsRows4 w a l) (hb : Below B w w') (hB : w.heap.size ≤ B) : IsRows4 w' a l := by
  by_cases hl : l = []
  · exact .inl hl
  · rcases h with h | ⟨x, rfl, h⟩
    · exact absurd h hl
    · refine .inr ⟨x, rfl, fun i e hi => ?_⟩
      obtain ⟨x', e', hx, he, hrow⟩ := IsRows4.at (.inr ⟨x, rfl, h⟩) (List.getElem?_eq_some_iff.1 hi).1 hb hB
      cases hx
      rw [hi] at he
      cases he
      exact hrow
theorem IsRows3.below {B : Nat} {w w' : World} {a : Option Addr} {l : List E3} (h : IsRows3 w a l) (hb : Below B w w') (hB : w.heap.size ≤ B) : IsRows3 w' a l := by
  by_cases hl : l = []
  · exact .inl hl
  · rcases h with h | ⟨x, rfl, h⟩
    · exact absurd h hl
    · refine .inr ⟨x, rfl, fun i e hi => ?_⟩
      obtain ⟨x', e', hx, he, hrow⟩ := IsRows3.at (.inr ⟨x, rfl, h⟩) (List.getElem?_eq_some_iff.1 hi).1 hb hB
      cases hx
      rw [hi] at he
      cases he
      exact hrow

theorem tsum_le (E F : List Ent) : ∀ t, tsum E F t ≤ t * (E.length + F.length)
  | 0 => by simp [tsum]
  | t + 1 => by
    have h1 := tsum_le E F t
    have h2 := @List.countP_le_length _ (named t) E
    have h3 := @List.countP_le_length _ (named t) F
    rw [tsum, Nat.succ_mul]
    omega
theorem len_ent4 (l : List E4) : (insAll (l.map ent4)).length = (ddup l).length := by rw [insAll_eq, ← map_ddup ent4 ent4_inj, List.length_map]
theorem len_ent3 (l : List E3) : (insAll (l.map ent3)).length = (ddup l).length := by rw [insAll_eq, ← map_ddup ent3 ent3_inj, List.length_map]
theorem IsRows4.ok {w : World} {a : Option Addr} {l : List E4} (h : IsRows4 w a l) : ∀ e ∈ l, Ok4 e := fun e he => by
  obtain ⟨j, hj⟩ := List.getElem?_of_mem he
  obtain ⟨_, e', _, he', _, _, _, _, hok⟩ := h.at (List.getElem?_eq_some_iff.1 hj).1 (Below.refl w.heap.size w) (Nat.le_refl _)
  rw [hj] at he'
  cases he'
  exact hok
theorem IsRows3.ok {w : World} {a : Option Addr} {l : List E3} (h : IsRows3 w a l) : ∀ e ∈ l, Ok3 e := fun e he => by
  obtain ⟨j, hj⟩ := List.getElem?_of_mem he
  obtain ⟨_, e', _, he', _, _, _, hok⟩ := h.at (List.getElem?_eq_some_iff.1 hj).1 (Below.refl w.heap.size w) (Nat.le_refl _)
  rw [hj] at he'
  cases he'
  exact hok

set_option maxRecDepth 100000 in
set_option maxHeartbeats 4000000 in
theorem law_any (n c0 m c1 : Nat) (a0 a1 : Option Addr) (la : List E4) (lr : List E3) (w : World) (ha : IsRows4 w a0 la) (hb : IsRows3 w a1 lr)
    (hla : la.length = n) (hlr : lr.length = m) (hn : n ≤ maxLen) (hm : m ≤ maxLen) :
    Calls Try.prog 3 #[.slice a0 n c0, .slice a1 m c1] w fun e w' => e = .returned (.bool true) ∧ Below w.heap.size w w' := by
  have HBY := hide (bytes_any a0 a1 n c0 m c1 w hn hm)
  unfold maxLen at hn hm
  have HA := hide ha
  have HB := hide hb
  have HLA := hide hla
  have HLR := hide hlr
  clear ha hb hla hlr
  have hmm := @run_makeMap Try.prog
  go_enter Try.func3, Try.ntmps3
  go_wp2_with fail
  refine HBY.out.mono ?_
  rintro e w' ⟨⟨x, rfl⟩, rfl⟩
  clear HBY
  cases x
  · go_wp2
    go_ret
    exact ⟨rfl, Below.refl _ _⟩
  by_cases hn2 : 4096 < n
  · go_wp2
    go_ret
    exact ⟨rfl, Below.refl _ _⟩
  by_cases hm2 : 4096 < m
  · go_wp2
    go_ret
    exact ⟨rfl, Below.refl _ _⟩
  go_wp2_with fail
  refine (roles_any w).mono ?_
  rintro e w1 ⟨xs, ρ, rfl, hown, hheld, hrt, hb1⟩
  have HRC1 : Hid (RoleCells w1 w.heap.size ρ) := fun j hj => (hown.cellAt j (by omega)).trans (hheld j hj)
  have HRO1 : Hid (Roles w1 ρ) := ⟨fun j hj => (hrt.role j hj).1, fun i j hi hj e => by
    rcases Nat.lt_trichotomy i j with h | h | h
    · have := hrt.apart i j h hj; omega
    · exact h
    · have := hrt.apart j i h hi; omega⟩
  have HB1 := hide hb1
  clear hown hheld hrt hb1
  go_wp2_with fail
  refine (policy_any w.heap.size n c0 m c1 a0 a1 ρ la lr w1 HRC1.out HRO1.out (HA.out.below HB1.out (Nat.le_refl _)) (HB.out.below HB1.out (Nat.le_refl _)) HLA.out HLR.out (by omega) (by omega)).mono ?_
  rintro e w2 ⟨rfl, hpol⟩
  have HRC : Hid (RoleCells w2 w.heap.size ρ) := HRC1.out.below hpol.below (Nat.le_refl _)
  have HRO : Hid (Roles w2 ρ) := HRO1.out.below hpol.below (Nat.le_refl _)
  have HB2 : Hid (Below w.heap.size w w2) := HB1.out.trans (hpol.below.mono HB1.out.size)
  have HP := hide hpol
  clear hpol HRC1 HRO1 HB1
  go_wp2
  go_loopw [7, 8, 10] (fun wt en i wr => ∃ k : Nat, k ≤ n ∧ i = .int .i64 k ∧ wt = .int .i64 ((want4 (ddup (la.take k)) : Nat) : Int) ∧ en = .int .i64 (((ddup (la.take k)).length : Nat) : Int) ∧ Hid (Below w2.heap.size w2 wr) ∧ Hid (Seen4 wr w2.heap.size (ddup (la.take k)))) (fun _ _ i _ => n - (intOf i).toNat)
  case atStart =>
    exact ⟨0, Nat.zero_le _, rfl, rfl, rfl, (Below.refl _ _).alloc (Nat.le_refl _) _, VMap.made w2⟩
  case round =>
    obtain ⟨k, hk, rfl, rfl, rfl, HBr, HS⟩ := hrel
    by_cases hlt : k < n
    · obtain ⟨x, ⟨ea, el, eh, ec⟩, rfl, hle, r0, r1, r2, r3, rok⟩ := HA.out.at (i := k) (by rw [HLA.out]; exact hlt) (HB2.out.trans (HBr.out.mono HB2.out.size)) (Nat.le_refl _)
      have HLE := hide hle
      have HOK := hide rok
      clear hle rok
      simp only at r0 r1 r2 r3
      have HLN := hide (ddup_take_len la k)
      have HWN := hide (want4_le (ddup (la.take k)))
      generalize hD : ddup (la.take k) = D at *
      have HD := hide hD
      clear hD
      have hln := HLN.out
      have hwn := HWN.out
      generalize hwd : want4 D = wd at *
      have HWD := hide hwd
      clear hwd
      generalize hld : D.length = ld at *
      have HLD := hide hld
      clear hld
      have HBW : Hid (wr.grownBy (wr.alloc (.cells #[.int .u8 ea, .int .u8 el, .int .u8 eh, .int .u8 ec] 30)) none) := World.grownBy_alloc wr _ none
      have HBA : Hid (Below w2.heap.size w2 (wr.alloc (.cells #[.int .u8 ea, .int .u8 el, .int .u8 eh, .int .u8 ec] 30))) := HBr.out.alloc HBr.out.size _
      have HSA : Hid (Seen4 (wr.alloc (.cells #[.int .u8 ea, .int .u8 el, .int .u8 eh, .int .u8 ec] 30)) w2.heap.size D) := HS.out.grown HBW.out
      have hlk : (Instr.lookup 29 (.map (some w2.heap.size)) (.agg #[.int .u8 ea, .int .u8 el, .int .u8 eh, .int .u8 ec]) false).run Try.prog (wr.alloc (.cells #[.int .u8 ea, .int .u8 el, .int .u8 eh, .int .u8 ec] 30)) = .ok (.bool (decide ((ea, el, eh, ec) ∈ D))) (wr.alloc (.cells #[.int .u8 ea, .int .u8 el, .int .u8 eh, .int .u8 ec] 30)) := HSA.out.look (ea, el, eh, ec)
      have z0 : (wr.alloc (.cells #[.int .u8 ea, .int .u8 el, .int .u8 eh, .int .u8 ec] 30)).cell? ⟨wr.heap.size, 0, none⟩ = some (.int .u8 ea) := cell_new wr _ 30 0
      have z1 : (wr.alloc (.cells #[.int .u8 ea, .int .u8 el, .int .u8 eh, .int .u8 ec] 30)).cell? ⟨wr.heap.size, 1, none⟩ = some (.int .u8 el) := cell_new wr _ 30 1
      have z2 : (wr.alloc (.cells #[.int .u8 ea, .int .u8 el, .int .u8 eh, .int .u8 ec] 30)).cell? ⟨wr.heap.size, 2, none⟩ = some (.int .u8 eh) := cell_new wr _ 30 2
      have z3 : (wr.alloc (.cells #[.int .u8 ea, .int .u8 el, .int .u8 eh, .int .u8 ec] 30)).cell? ⟨wr.heap.size, 3, none⟩ = some (.int .u8 ec) := cell_new wr _ 30 3
      by_cases hmem : (ea, el, eh, ec) ∈ D
      · rw [decide_eq_true hmem] at hlk
        have HO : Hid (ddup (la.take (k + 1)) = D) := (ddup_old HLE.out (by rw [HD.out]; exact hmem)).trans HD.out
        clear hmem
        go_wp2
        go_roundw
        case rel => exact ⟨k + 1, by omega, by go_num, by rw [HO.out, HWD.out], by rw [HO.out, HLD.out], HBA, by rw [HO.out]; exact HSA⟩
        case measure => simp [intOf]; omega
      · rw [decide_eq_false hmem] at hlk
        have HO : Hid (ddup (la.take (k + 1)) = D ++ [(ea, el, eh, ec)]) := (ddup_new HLE.out (by rw [HD.out]; exact hmem)).trans (by rw [HD.out])
        obtain ⟨W1, hput0, hg, hsz, hS1⟩ := HSA.out.put hmem
        have hput : (Instr.mapUpdate 29 (.map (some w2.heap.size)) (.agg #[.int .u8 ea, .int .u8 el, .int .u8 eh, .int .u8 ec]) (.bool true)).run Try.prog (wr.alloc (.cells #[.int .u8 ea, .int .u8 el, .int .u8 eh, .int .u8 ec] 30)) = .ok () W1 := hput0
        clear hput0
        clear hmem
        have hlt2 : w2.heap.size < wr.heap.size := VMap.lt HS.out
        have y0 := hg.cell z0 (by simp; omega)
        have y1 := hg.cell z1 (by simp; omega)
        have y2 := hg.cell z2 (by simp; omega)
        have y3 := hg.cell z3 (by simp; omega)
        have HB1 : Hid (Below w2.heap.size w2 W1) := HBA.out.grown hg HBA.out.size (fun x hx => by cases hx; exact Nat.le_refl _)
        have HS1 := hide hS1
        clear hg hsz hS1
        go_wp2_with fail
        refine (dist_any ea el eh ec 4 W1 (by omega)).mono ?_
        rintro e W2 ⟨rfl, hb7⟩
        have hd4 := dcount_le [ea, el, eh, ec] 4
        have HWN2 : Hid (want4 (ddup (la.take (k + 1))) = wd + dcount [ea, el, eh, ec] 4) := by
          rw [Hid, HO.out, want4_snoc, HWD.out]; rfl
        have HLN2 : Hid ((ddup (la.take (k + 1))).length = ld + 1) := by rw [Hid, HO.out, List.length_append, HLD.out]; rfl
        have HB7 : Hid (Below w2.heap.size w2 W2) := HB1.out.trans (hb7.mono HB1.out.size)
        have HS7 : Hid (Seen4 W2 w2.heap.size (ddup (la.take (k + 1)))) := by rw [Hid, HO.out]; exact HS1.out.grown (below_grown hb7)
        clear hb7 hlk hput z0 z1 z2 z3 y0 y1 y2 y3 r0 r1 r2 r3
        generalize dcount [ea, el, eh, ec] 4 = dc at *
        go_wp2
        go_roundw
        case rel => exact ⟨k + 1, by omega, by go_num, by rw [HWN2.out]; go_num, by rw [HLN2.out]; go_num, HB7, HS7⟩
        case measure => simp [intOf]; omega
    · obtain rfl : k = n := by omega
      have HT : Hid (la.take k = la) := List.take_of_length_le (by rw [HLA.out]; exact Nat.le_refl _)
      rw [HT.out] at HS
      rw [HT.out]
      have hln : (ddup la).length ≤ k := Nat.le_trans (ddup_len la) (Nat.le_of_eq HLA.out)
      have hwn := want4_le (ddup la)
      generalize hwd : want4 (ddup la) = wd at *
      have HWD := hide hwd
      clear hwd
      generalize hld : (ddup la).length = ld at *
      have HLD := hide hld
      clear hld HT HS hlt hk
      rename World => wo
      go_wp2
      go_loopw [7, 8, 13] (fun wt en i wr => ∃ q : Nat, q ≤ m ∧ i = .int .i64 q ∧ wt = .int .i64 ((wd + want3 (ddup (lr.take q)) : Nat) : Int) ∧ en = .int .i64 ((ld + (ddup (lr.take q)).length : Nat) : Int) ∧ Hid (Below w2.heap.size w2 wr) ∧ Hid (Seen3 wr wo.heap.size (ddup (lr.take q)))) (fun _ _ i _ => m - (intOf i).toNat)
      case atStart =>
        exact ⟨0, Nat.zero_le _, rfl, rfl, rfl, HBr.out.alloc HBr.out.size _, VMap.made wo⟩
      case round =>
        obtain ⟨q, hq, rfl, rfl, rfl, HBi, HS⟩ := hrel
        by_cases hlt : q < m
        · obtain ⟨x, ⟨ea, el, eh⟩, rfl, hle, r0, r1, r2, rok⟩ := HB.out.at (i := q) (by rw [HLR.out]; exact hlt) (HB2.out.trans (HBi.out.mono HB2.out.size)) (Nat.le_refl _)
          have HLE := hide hle
          have HOK := hide rok
          clear hle rok
          simp only at r0 r1 r2
          have hlq := ddup_take_len lr q
          have hwq := want3_le (ddup (lr.take q))
          generalize hD : ddup (lr.take q) = D at *
          have HD := hide hD
          clear hD
          have hwt : wd + want3 D ≤ 4 * ld + 3 * D.length := by omega
          have hlt9 : ld + D.length ≤ k + q := by omega
          clear hwq
          generalize hwq : wd + want3 D = wt at *
          have HWQ := hide hwq
          clear hwq
          generalize hlq2 : ld + D.length = lt at *
          have HLQ := hide hlq2
          clear hlq2
          have hwt2 : wt ≤ 40000 := by omega
          have hlt8 : lt ≤ 10000 := by omega
          clear hwt hlq
          have HBW : Hid (wr.grownBy (wr.alloc (.cells #[.int .u8 ea, .int .u8 el, .int .u8 eh] 33)) none) := World.grownBy_alloc wr _ none
          have HBA : Hid (Below w2.heap.size w2 (wr.alloc (.cells #[.int .u8 ea, .int .u8 el, .int .u8 eh] 33))) := HBi.out.alloc HBi.out.size _
          have HSA : Hid (Seen3 (wr.alloc (.cells #[.int .u8 ea, .int .u8 el, .int .u8 eh] 33)) wo.heap.size D) := HS.out.grown HBW.out
          have hlk : (Instr.lookup 32 (.map (some wo.heap.size)) (.agg #[.int .u8 ea, .int .u8 el, .int .u8 eh]) false).run Try.prog (wr.alloc (.cells #[.int .u8 ea, .int .u8 el, .int .u8 eh] 33)) = .ok (.bool (decide ((ea, el, eh) ∈ D))) (wr.alloc (.cells #[.int .u8 ea, .int .u8 el, .int .u8 eh] 33)) := HSA.out.look (ea, el, eh)
          have z0 : (wr.alloc (.cells #[.int .u8 ea, .int .u8 el, .int .u8 eh] 33)).cell? ⟨wr.heap.size, 0, none⟩ = some (.int .u8 ea) := cell_new wr _ 33 0
          have z1 : (wr.alloc (.cells #[.int .u8 ea, .int .u8 el, .int .u8 eh] 33)).cell? ⟨wr.heap.size, 1, none⟩ = some (.int .u8 el) := cell_new wr _ 33 1
          have z2 : (wr.alloc (.cells #[.int .u8 ea, .int .u8 el, .int .u8 eh] 33)).cell? ⟨wr.heap.size, 2, none⟩ = some (.int .u8 eh) := cell_new wr _ 33 2
          by_cases hmem : (ea, el, eh) ∈ D
          · rw [decide_eq_true hmem] at hlk
            have HO : Hid (ddup (lr.take (q + 1)) = D) := (ddup_old HLE.out (by rw [HD.out]; exact hmem)).trans HD.out
            clear hmem
            go_wp2
            go_roundw
            case rel => exact ⟨q + 1, by omega, by go_num, by rw [HO.out, HWQ.out], by rw [HO.out, HLQ.out], HBA, by rw [HO.out]; exact HSA⟩
            case measure => simp [intOf]; omega
          · rw [decide_eq_false hmem] at hlk
            have HO : Hid (ddup (lr.take (q + 1)) = D ++ [(ea, el, eh)]) := (ddup_new HLE.out (by rw [HD.out]; exact hmem)).trans (by rw [HD.out])
            obtain ⟨W1, hput0, hg, hsz, hS1⟩ := HSA.out.put hmem
            have hput : (Instr.mapUpdate 32 (.map (some wo.heap.size)) (.agg #[.int .u8 ea, .int .u8 el, .int .u8 eh]) (.bool true)).run Try.prog (wr.alloc (.cells #[.int .u8 ea, .int .u8 el, .int .u8 eh] 33)) = .ok () W1 := hput0
            clear hput0
            clear hmem
            have hlt2 : wo.heap.size < wr.heap.size := VMap.lt HS.out
            have y0 := hg.cell z0 (by simp; omega)
            have y1 := hg.cell z1 (by simp; omega)
            have y2 := hg.cell z2 (by simp; omega)
            have HB1 : Hid (Below w2.heap.size w2 W1) := HBA.out.grown hg HBA.out.size (fun x hx => by cases hx; exact HBr.out.size)
            have HS1 := hide hS1
            clear hg hsz hS1
            go_wp2_with fail
            refine (dist_any ea el eh 0 3 W1 (by omega)).mono ?_
            rintro e W2 ⟨rfl, hb7⟩
            have hd4 := dcount_le [ea, el, eh, 0] 3
            have HWN2 : Hid (wd + want3 (ddup (lr.take (q + 1))) = wt + dcount [ea, el, eh, 0] 3) := by
              have e9 : d3 (ea, el, eh) = dcount [ea, el, eh, 0] 3 := rfl
              have e8 := HWQ.out
              rw [Hid, HO.out, want3_snoc, e9]; omega
            have HLN2 : Hid (ld + (ddup (lr.take (q + 1))).length = lt + 1) := by
              have e8 := HLQ.out
              have e7 : (D ++ [(ea, el, eh)]).length = D.length + 1 := by simp
              rw [Hid, HO.out, e7]; omega
            have HB7 : Hid (Below w2.heap.size w2 W2) := HB1.out.trans (hb7.mono HB1.out.size)
            have HS7 : Hid (Seen3 W2 wo.heap.size (ddup (lr.take (q + 1)))) := by rw [Hid, HO.out]; exact HS1.out.grown (below_grown hb7)
            clear hb7 hlk hput z0 z1 z2 y0 y1 y2 r0 r1 r2
            generalize dcount [ea, el, eh, 0] 3 = dc at *
            go_wp2
            go_roundw
            case rel => exact ⟨q + 1, by omega, by go_num, by rw [HWN2.out]; go_num, by rw [HLN2.out]; go_num, HB7, HS7⟩
            case measure => simp [intOf]; omega
        · obtain rfl : q = m := by omega
          have HT : Hid (lr.take q = lr) := List.take_of_length_le (by rw [HLR.out]; exact Nat.le_refl _)
          rw [HT.out]
          have hl3 : (ddup lr).length ≤ q := Nat.le_trans (ddup_len lr) (Nat.le_of_eq HLR.out)
          have HEQ : Hid (tsum (insAll (la.map ent4)) (insAll (lr.map ent3)) 256 = wd + want3 (ddup lr)) := by
            rw [Hid, total_want la lr HA.out.ok HB.out.ok, HWD.out]
          have HEA : Hid (∀ x ∈ insAll (la.map ent4), EntOk x) := fun x hx => by
            obtain ⟨e, he, rfl⟩ := List.mem_map.1 (mem_insAll hx)
            exact ok_ent4 (HA.out.ok e he)
          have HER : Hid (∀ x ∈ insAll (lr.map ent3), EntOk x) := fun x hx => by
            obtain ⟨e, he, rfl⟩ := List.mem_map.1 (mem_insAll hx)
            exact ok_ent3 (HB.out.ok e he)
          have hle4 := len_ent4 la
          have hle3 := len_ent3 lr
          rw [HLD.out] at hle4
          generalize insAll (la.map ent4) = EA at *
          generalize insAll (lr.map ent3) = ER at *
          generalize wd + want3 (ddup lr) = wt at *
          generalize (ddup lr).length = l3 at *
          obtain ⟨lt, hlt9⟩ : ∃ lt, lt = ld + l3 := ⟨_, rfl⟩
          rw [← hlt9]
          have HLT := hide hlt9
          have hlt8 : lt ≤ 8192 := by omega
          clear hlt9
          have HL4 := hide hle4
          have HL3 := hide hle3
          clear hle4 hle3 HT HS hlt hq
          rename World => wp
          go_wp2
          go_loopw [15, 16] (fun tt i wr => ∃ t : Nat, t ≤ 256 ∧ i = .int .i64 t ∧ tt = .int .i64 ((tsum EA ER t : Nat) : Int) ∧ Hid (Below w2.heap.size w2 wr)) (fun _ i _ => 256 - (intOf i).toNat)
          case atStart => exact ⟨0, Nat.zero_le _, rfl, rfl, HBi⟩
          case round =>
            obtain ⟨t, ht, rfl, rfl, HBt⟩ := hrel
            by_cases hlt : t < 256
            · have hcell := HRC.out.below HBt.out (Nat.le_refl _) t hlt
              have hts : tsum EA ER t ≤ 256 * 8192 := Nat.le_trans (tsum_le EA ER t) (Nat.mul_le_mul ht (by rw [HL4.out, HL3.out]; omega))
              go_wp2_with fail
              refine (zznaming_any (w1.heap.size + 5) (w1.heap.size + 3) (w1.heap.size + 4) (w1.heap.size + 6) t ρ EA ER wr (HP.out.at_.grown (below_grown HBt.out) (fun x hx => by cases hx)) (HP.out.a.below HBt.out (Nat.le_refl _)) (HP.out.r.below HBt.out (Nat.le_refl _)) (HRO.out.below HBt.out (Nat.le_refl _)) HEA.out HER.out hlt (by rw [HL4.out]; omega) (by rw [HL3.out]; omega)).mono ?_
              rintro e W1 ⟨rfl, hb8⟩
              have HB8 : Hid (Below w2.heap.size w2 W1) := HBt.out.trans (hb8.mono HBt.out.size)
              have HT1 : Hid (tsum EA ER (t + 1) = tsum EA ER t + (EA.countP (named t) + ER.countP (named t))) := rfl
              have hc1 : EA.countP (named t) + ER.countP (named t) ≤ lt := by
                have h2 := @List.countP_le_length _ (named t) EA
                have h3 := @List.countP_le_length _ (named t) ER
                rw [HL4.out] at h2
                rw [HL3.out] at h3
                have h4 := HLT.out
                omega
              clear hb8 hcell
              generalize EA.countP (named t) + ER.countP (named t) = c at *
              generalize tsum EA ER t = tt at *
              have f1 : decide ((c : Int) < 0) = false := by simp
              have f2 : decide ((lt : Int) < (c : Int)) = false := by simp; omega
              go_wp2
              go_roundw
              case rel => exact ⟨t + 1, by omega, by go_num, by rw [HT1.out]; go_num, HB8⟩
              case measure => simp [intOf]; omega
            · obtain rfl : t = 256 := by omega
              rw [HEQ.out]
              have f3 : ((wt : Int) == (wt : Int)) = true := by simp
              go_wp2
              go_ret
              exact ⟨rfl, HB2.out.trans (HBt.out.mono HB2.out.size)⟩
end Go.Proofs.Qxb6616888a
