import Derived.Test.Qxb6617744aBuilt
import Derived.RegionTactic
namespace Go.Proofs.Qxb6617744a
open Go.RowKit Go.Maps

theorem IsStrs.next {B : Nat} {w w' : World} {a : Option Addr} {len : Nat} {ss : List ByteArray} (h : IsStrs w a len ss) (hb : Below B w w') (hB : w.heap.size ≤ B) : IsStrs w' a len ss := by
  rcases h with h | ⟨x, hx, h⟩
  · exact .inl h
  · refine .inr ⟨x, hx, fun i hi => ⟨?_, (h i hi).2⟩⟩
    have h1 := (h i hi).1
    have h2 := World.block_lt_of_cell? w _ h1
    rw [hb.cell (p := x.add i) (by omega)]
    exact h1

theorem eq_str {g c : ByteArray} (h : g.data.toList = c.data.toList) : (g.toList == c.toList) = true := by
  rw [ByteArray.toList_eq, ByteArray.toList_eq, h]; simp
theorem ne_str {g c : ByteArray} (h : ¬ g.data.toList = c.data.toList) : (g.toList == c.toList) = false := by
  rw [ByteArray.toList_eq, ByteArray.toList_eq]; simpa using h

theorem _root_.Go.RowKit.Below.cell_back {B : Nat} {w w' : World} (_hb : Below B w w') {a : Addr} {len q : Nat} {ss : List ByteArray} (h : IsStrs w (some a) len ss) (hq : q < len) : w.cell? (a.add q) = some (.string (ss.getD q ByteArray.empty)) := by
  rcases h with h | ⟨x, hx, h⟩
  · omega
  · cases hx
    exact (h q hq).1

theorem hide {p : Prop} (h : p) : Hid p := h

theorem key_ne {s k : ByteArray} (h : s.data.toList ≠ k.data.toList) : (Lit.string s.data.toList) ≠ Lit.string k.data.toList := fun e => by
  simp only [Lit.string.injEq] at e
  exact h e

theorem done_step {p q : Nat} (h : q ≠ p) : decide (p < q) = decide (p < q + 1) := by
  by_cases h1 : p < q
  · rw [decide_eq_true h1, decide_eq_true (by omega)]
  · rw [decide_eq_false h1, decide_eq_false (by omega)]

/-- What the three answers are. -/
theorem answers {H : Type} {K : Lit} {v g : ByteArray} {Db Dg T : DataW H} {b s r : Bool} (hk : WideAt.IsKeyLit K) (hB : Built K (.lit (.string v.data.toList)) true Db Dg) (hg : T.atKey K Z = .lit (.string g.data.toList))
    (h1 : b = true ↔ Sel Db T) (h2 : s = true ↔ Sel ((.map [] : DataW H).put K (.lit (.string v.data.toList))) T) (h3 : r = true ↔ Sel Dg T) :
    s = (Maps.has T K && (g.toList == v.toList)) ∧ r = (b && s) := by
  have e2 : s = true ↔ (Maps.has T K && (g.toList == v.toList)) = true := by
    rw [h2, sel_single hk, hg, ByteArray.toList_eq, ByteArray.toList_eq]
    simp
  refine ⟨Bool.eq_iff_iff.2 e2, ?_⟩
  rw [Bool.eq_iff_iff, h3, hB.sel, Bool.and_eq_true, h1, h2, sel_single hk]

section
variable {H : Type} (kind : Int) (name ns k v : ByteArray) (o t : Option Nat) (ia va : Option Addr) (n ic vc p : Nat) (is vs : List ByteArray) (Do T : DataW H) (w : World)

set_option maxRecDepth 100000 in
set_option maxHeartbeats 2000000 in
theorem built_main (h1 : n ≤ 4096) (hp : p ≤ n) (ho : MapIs w (.map o) Do) (ht : MapIs w (.map t) T) (s1 : Maps.size Do ≤ 65536) (s2 : Maps.size T ≤ 65536)
    (m1 : name.size ≤ maxLen) (m2 : ns.size ≤ maxLen) (m3 : k.size ≤ maxLen) (m4 : v.size ≤ maxLen) (hi : IsStrs w ia n is) (hv : IsStrs w va n vs) :
    Calls Try.prog 3 #[.int .i64 kind, .string name, .string ns, .map o, .slice ia n ic, .slice va n vc, .map t, .int .i64 p, .string k, .string v] w fun e w' => e = .returned (.bool true) ∧ Below w.heap.size w w' := by
  have hd : decide ((4096 : Int) < (n : Int)) = false := by simp; omega
  have lo := len_ok ho
  have lt := len_ok ht
  have HT : Hid (MapIs w (.map t) T) := ht
  clear ho ht
  generalize Maps.size Do = so at *
  generalize Maps.size T = st at *
  have hd3 : decide ((65536 : Int) < (so : Int)) = false := by simp; omega
  have hd4 : decide ((65536 : Int) < (st : Int)) = false := by simp; omega
  have HI : Hid (IsStrs w ia n is) := hi
  have HV : Hid (IsStrs w va n vs) := hv
  have M1 : Hid (name.size ≤ maxLen) := m1
  have M2 : Hid (ns.size ≤ maxLen) := m2
  have M3 : Hid (k.size ≤ maxLen) := m3
  have M4 : Hid (v.size ≤ maxLen) := m4
  clear hi hv m1 m2 m3 m4
  have hne : ((n : Int) != (n : Int)) = false := by simp
  have hdp : decide ((p : Int) < 0) = false := by simp
  have hdp2 : decide ((n : Int) < (p : Int)) = false := by simp; omega
  go_enter Try.func3, Try.ntmps3
  go_wp2_with fail
  refine (fit_any name ns k v ia va n ic n vc is vs w M1.out M2.out M3.out M4.out HI.out HV.out h1 h1).mono ?_
  rintro e w' ⟨⟨x, rfl⟩, rfl⟩
  cases x
  · go_wp2
    go_ret
    exact ⟨rfl, Below.refl _ _⟩
  go_wp2
  clear hd hne hdp hdp2 lo lt hd3 hd4
  go_loop [21] (fun i => ∃ q : Nat, q ≤ n ∧ i = .int .i64 q ∧ Hid (∀ j, j < q → (is.getD j ByteArray.empty).data.toList ≠ k.data.toList)) (fun i => n - (intOf i).toNat)
  case atStart => exact ⟨0, Nat.zero_le _, rfl, fun j hj => absurd hj (by omega)⟩
  case round =>
    obtain ⟨q, hq, rfl, HNK⟩ := hrel
    by_cases hlt : q < n
    · obtain ⟨x, s, rfl, hs, hcell, -⟩ := HI.out.at hlt
      have HS : Hid (s = is.getD q ByteArray.empty) := hs
      clear hs
      by_cases hek : s.data.toList = k.data.toList
      · have hb := eq_str hek
        clear hek
        go_wp2
        go_ret
        exact ⟨rfl, Below.refl _ _⟩
      · have hb := ne_str hek
        have HK : Hid (¬ s.data.toList = k.data.toList) := hek
        clear hek
        go_wp2
        go_round
        case rel =>
          refine ⟨q + 1, by omega, by go_num, fun j hj => ?_⟩
          by_cases e : j = q
          · rw [e, ← HS.out]; exact HK.out
          · exact HNK.out j (by omega)
        case measure => simp [intOf]; omega
    · have HN : Hid (∀ j, j < n → (is.getD j ByteArray.empty).data.toList ≠ k.data.toList) := fun j hj => HNK.out j (by omega)
      have hmm := @run_makeMap Try.prog
      go_wp2
      clear hmm hlt hq HNK
      have hob : ((w.alloc (.map #[] 0)).alloc (.map #[] 0)).ownsMap Try.prog 9 (plainElem Try.prog 9) w.heap.size 0 (.map [] : DataW H) := (World.ownsMap_made w Try.prog 9 _).alloc _
      have hog : ((w.alloc (.map #[] 0)).alloc (.map #[] 0)).ownsMap Try.prog 9 (plainElem Try.prog 9) (w.heap.size + 1) 0 (.map [] : DataW H) := by
        have := World.ownsMap_made (H := H) (w.alloc (.map #[] 0)) Try.prog 9 (plainElem Try.prog 9)
        simpa using this
      have hbl : Below w.heap.size w ((w.alloc (.map #[] 0)).alloc (.map #[] 0)) := ((Below.refl _ _).alloc (Nat.le_refl _) _).alloc (by simp) _
      go_loopw [24] (fun i wr => ∃ (q : Nat) (Db Dg : DataW H), q ≤ n + 1 ∧ i = .int .i64 q ∧ wr.ownsMap Try.prog 9 (plainElem Try.prog 9) w.heap.size q Db ∧ wr.ownsMap Try.prog 9 (plainElem Try.prog 9) (w.heap.size + 1) (q + q) Dg ∧
          Built (.string k.data.toList) (.lit (.string v.data.toList)) (decide (p < q)) Db Dg ∧ (n = 0 → Db = .map []) ∧ Below w.heap.size w wr) (fun i _ => n + 1 - (intOf i).toNat)
      case atStart => exact ⟨0, _, _, by omega, rfl, hob, hog, by simpa using Built.start, fun _ => rfl, hbl⟩
      case round =>
        obtain ⟨q2, Db, Dg, hq2, rfl, hob2, hog2, hbt, hem, hbl2⟩ := hrel
        clear hob hog hbl
        have HBT := hide hbt
        have HEM := hide hem
        clear hbt hem
        by_cases hle : q2 ≤ n
        · by_cases hqp : q2 = p
          · have heq : ((q2 : Int) == (p : Int)) = true := by simp; omega
            have HQP : Hid (q2 = p) := hqp
            clear hqp
            by_cases hlt2 : q2 < n
            · go_wp2_with (at_mapUpdate; refine wpList_mapUpdate_own _ rfl _ _ _ 22 rfl 9 9 law9 Try.underlying22 _ (w.heap.size + 1) (q2 + q2) Dg rfl hog2 (by unfold maxLen; omega) _ _ _ rfl rfl (WideMaps.keyOf_string_mk Try.underlying9 M3.out) _ [] (plainElem_string Try.underlying9 M4.out) ?_; intro w3 hog3 hgr3)
              have hob3 := hob2.kept hgr3 (by simp)
              have hbl3 : Below w.heap.size w w3 := hbl2.grown hgr3 hbl2.size (fun j hj => by cases hj; omega)
              have HB3 : Hid (Built (.string k.data.toList) (.lit (.string v.data.toList)) true Db (Dg.put (.string k.data.toList) (.lit (.string v.data.toList)))) := HBT.out.mine hog2.isMap trivial
              clear hgr3
              obtain ⟨x, s, rfl, hs, hcell, hsm⟩ := (HI.out.next hbl3 (Nat.le_refl _)).at hlt2
              obtain ⟨y, u, rfl, -, hcell2, hum⟩ := (HV.out.next hbl3 (Nat.le_refl _)).at hlt2
              have hsk : s.data.toList ≠ k.data.toList := by rw [hs]; exact HN.out q2 hlt2
              have HSK : Hid (s.data.toList ≠ k.data.toList) := hsk
              clear hs hsk
              obtain ⟨wa, hra, hba, hga⟩ := (hob3.drew).update law9 Try.underlying22 (by unfold maxLen; omega) (WideMaps.keyOf_string_mk Try.underlying9 hsm) (plainElem_string Try.underlying9 hum)
              have hga2 := hog3.drew.kept hga (by simp)
              have hbla : Below w.heap.size w wa := (hbl3.drew).grown hga (hbl3.size) (fun j hj => by cases hj; exact Nat.le_refl _)
              have hcella : wa.cell? (x.add q2) = some (.string s) := (hga.cell (a := x.add q2) (by exact hcell) (by have h9 := World.block_lt_of_cell? w (x.add q2) ((hbl3.cell_back (HI.out) hlt2)); intro e; simp only [Option.some.injEq] at e; omega))
              have hcella2 : wa.cell? (y.add q2) = some (.string u) := (hga.cell (a := y.add q2) (by exact hcell2) (by have h9 := World.block_lt_of_cell? w (y.add q2) ((hbl3.cell_back (HV.out) hlt2)); intro e; simp only [Option.some.injEq] at e; omega))
              obtain ⟨wb, hrb, hbb, hgb⟩ := (hga2.drew).update law9 Try.underlying22 (by unfold maxLen; omega) (WideMaps.keyOf_string_mk Try.underlying9 hsm) (plainElem_string Try.underlying9 hum)
              have hbb2 := hba.drew.kept hgb (by simp)
              have hblb : Below w.heap.size w wb := (hbla.drew).grown hgb (hbla.size) (fun j hj => by cases hj; omega)
              have HBB := hide hbb
              have HBB2 := hide hbb2
              clear hba hga hga2 hbla hbb hbb2 hgb
              go_wp2_with fail
              go_region
              clear hra hcell hcell2
              go_wp2_with fail
              go_region
              clear hrb hcella hcella2
              go_wp2
              go_roundw
              case rel => exact ⟨q2 + 1, _, _, by omega, by go_num, HBB2.out, HBB.out.mono (by omega), by rw [HQP.out, decide_eq_true (Nat.lt_succ_self p)]; exact HB3.out.both hob3.isMap hog3.isMap (x := .string s.data.toList) trivial (key_ne HSK.out) _, fun h0 => by omega, hblb⟩
              case measure => simp [intOf]; omega
            · go_wp2_with (at_mapUpdate; refine wpList_mapUpdate_own _ rfl _ _ _ 22 rfl 9 9 law9 Try.underlying22 _ (w.heap.size + 1) (q2 + q2) Dg rfl hog2 (by unfold maxLen; omega) _ _ _ rfl rfl (WideMaps.keyOf_string_mk Try.underlying9 M3.out) _ [] (plainElem_string Try.underlying9 M4.out) ?_; intro w3 hog3 hgr3)
              have hob3 := hob2.kept hgr3 (by simp)
              have hbl3 : Below w.heap.size w w3 := hbl2.grown hgr3 hbl2.size (fun j hj => by cases hj; omega)
              have HB3 : Hid (Built (.string k.data.toList) (.lit (.string v.data.toList)) true Db (Dg.put (.string k.data.toList) (.lit (.string v.data.toList)))) := HBT.out.mine hog2.isMap trivial
              clear hgr3
              try go_wp2
              go_roundw
              case rel => exact ⟨q2 + 1, _, _, by omega, by go_num, hob3.mono (by omega), hog3.mono (by omega), by rw [HQP.out, decide_eq_true (Nat.lt_succ_self p)]; exact HB3.out, HEM.out, hbl3⟩
              case measure => simp [intOf]; omega
          · have heq : ((q2 : Int) == (p : Int)) = false := by simp; omega
            have HQP : Hid (¬ q2 = p) := hqp
            clear hqp
            by_cases hlt2 : q2 < n
            · obtain ⟨x, s, rfl, hs, hcell, hsm⟩ := (HI.out.next hbl2 (Nat.le_refl _)).at hlt2
              obtain ⟨y, u, rfl, -, hcell2, hum⟩ := (HV.out.next hbl2 (Nat.le_refl _)).at hlt2
              have hsk : s.data.toList ≠ k.data.toList := by rw [hs]; exact HN.out q2 hlt2
              have HSK : Hid (s.data.toList ≠ k.data.toList) := hsk
              clear hs hsk
              obtain ⟨wa, hra, hba, hga⟩ := (hob2.drew).update law9 Try.underlying22 (by unfold maxLen; omega) (WideMaps.keyOf_string_mk Try.underlying9 hsm) (plainElem_string Try.underlying9 hum)
              have hga2 := hog2.drew.kept hga (by simp)
              have hbla : Below w.heap.size w wa := (hbl2.drew).grown hga (hbl2.size) (fun j hj => by cases hj; exact Nat.le_refl _)
              have hcella : wa.cell? (x.add q2) = some (.string s) := (hga.cell (a := x.add q2) (by exact hcell) (by have h9 := World.block_lt_of_cell? w (x.add q2) ((hbl2.cell_back (HI.out) hlt2)); intro e; simp only [Option.some.injEq] at e; omega))
              have hcella2 : wa.cell? (y.add q2) = some (.string u) := (hga.cell (a := y.add q2) (by exact hcell2) (by have h9 := World.block_lt_of_cell? w (y.add q2) ((hbl2.cell_back (HV.out) hlt2)); intro e; simp only [Option.some.injEq] at e; omega))
              obtain ⟨wb, hrb, hbb, hgb⟩ := (hga2.drew).update law9 Try.underlying22 (by unfold maxLen; omega) (WideMaps.keyOf_string_mk Try.underlying9 hsm) (plainElem_string Try.underlying9 hum)
              have hbb2 := hba.drew.kept hgb (by simp)
              have hblb : Below w.heap.size w wb := (hbla.drew).grown hgb (hbla.size) (fun j hj => by cases hj; omega)
              have HBB := hide hbb
              have HBB2 := hide hbb2
              clear hba hga hga2 hbla hbb hbb2 hgb
              go_wp2_with fail
              go_region
              clear hra hcell hcell2
              go_wp2_with fail
              go_region
              clear hrb hcella hcella2
              go_wp2
              go_roundw
              case rel => exact ⟨q2 + 1, _, _, by omega, by go_num, HBB2.out, HBB.out.mono (by omega), by rw [← done_step HQP.out]; exact HBT.out.both hob2.isMap hog2.isMap (x := .string s.data.toList) trivial (key_ne HSK.out) _, fun h0 => by omega, hblb⟩
              case measure => simp [intOf]; omega
            · go_wp2
              go_roundw
              case rel => exact ⟨q2 + 1, _, _, by omega, by go_num, hob2.mono (by omega), hog2.mono (by omega), by rw [← done_step HQP.out]; exact HBT.out, HEM.out, hbl2⟩
              case measure => simp [intOf]; omega
        · have hmm := @run_makeMap Try.prog
          have HB4 : Hid (Built (.string k.data.toList) (.lit (.string v.data.toList)) true Db Dg) := by
            have h8 := HBT.out
            rw [decide_eq_true (show p < q2 by omega)] at h8
            exact h8
          clear HBT HI HV HN
          go_wp2_with (at_mapUpdate; refine wpList_mapUpdate_own _ rfl _ _ _ 22 rfl 9 9 law9 Try.underlying22 _ wr.heap.size 0 (.map [] : DataW H) rfl (World.ownsMap_made wr Try.prog 9 _) (by unfold maxLen; omega) _ _ _ rfl rfl (WideMaps.keyOf_string_mk Try.underlying9 M3.out) _ [] (plainElem_string Try.underlying9 M4.out) ?_)
          intro w3 hos3 hgr3
          have BL3 : Hid (Below w.heap.size w w3) := (hbl2.alloc hbl2.size _).grown hgr3 (by simp; have := hbl2.size; omega) (fun j hj => by cases hj; exact hbl2.size)
          have hob3 := (hob2.alloc (.map #[] 0)).kept hgr3 (by have := hob2.lt; intro e; simp only [Option.some.injEq] at e; omega)
          have hog3 := (hog2.alloc (.map #[] 0)).kept hgr3 (by have := hog2.lt; intro e; simp only [Option.some.injEq] at e; omega)
          obtain ⟨g, hlook, hga⟩ := look_ok (HT.out.next BL3.out) k M3.out
          have HGA := hide hga
          clear hga hmm hgr3
          cases hh : Maps.has T (.string k.data.toList)
          · have HH := hide hh
            rw [hh] at hlook
            clear hh
            go_wp2_with fail
            refine (zzsel_any kind name ns o (some w.heap.size) t Db T w3 (.inr ⟨_, _, rfl, hob3⟩) (HT.out.next BL3.out)).mono ?_
            rintro e w4 ⟨x1, rfl, hx1, b1⟩
            have X1 := hide hx1
            have BL4 : Hid (Below w.heap.size w w4) := BL3.out.trans (b1.mono BL3.out.size)
            have B4 := hide b1
            clear b1 hx1
            go_wp2_with fail
            refine (zzsel_any kind name ns o (some wr.heap.size) t _ T w4 (MapIs.next (.inr ⟨_, _, rfl, hos3⟩) B4.out) (HT.out.next BL4.out)).mono ?_
            rintro e w5 ⟨x2, rfl, hx2, b2⟩
            have X2 := hide hx2
            have BL5 : Hid (Below w.heap.size w w5) := BL4.out.trans (b2.mono BL4.out.size)
            have B5 : Hid (Below w3.heap.size w3 w5) := B4.out.trans (b2.mono B4.out.size)
            clear b2 hx2
            go_wp2_with fail
            refine (zzsel_any kind name ns o (some (w.heap.size + 1)) t Dg T w5 (MapIs.next (.inr ⟨_, _, rfl, hog3⟩) B5.out) (HT.out.next BL5.out)).mono ?_
            rintro e w6 ⟨x3, rfl, hx3, b3⟩
            have BL6 : Hid (Below w.heap.size w w6) := BL5.out.trans (b3.mono BL5.out.size)
            obtain ⟨e1, e2⟩ := answers (K := .string k.data.toList) trivial HB4.out HGA.out X1.out X2.out hx3
            have hb0 : ((n : Int) == 0) = true → x1 = true := fun h0 => by
              have h0' : n = 0 := by simpa using h0
              exact X1.out.2 (by rw [HEM.out h0']; exact sel_empty)
            clear b3 hx3
            rw [HH.out, Bool.false_and] at e1
            subst e1
            subst e2
            clear X1 X2 HEM HB4 HGA
            cases hz : ((n : Int) == 0)
            · cases x1
              all_goals
                go_wp2
                go_ret
                exact ⟨rfl, BL6.out⟩
            · obtain rfl := hb0 hz
              go_wp2
              go_ret
              exact ⟨rfl, BL6.out⟩
          · have HH := hide hh
            rw [hh] at hlook
            clear hh
            by_cases hgv : g.data.toList = v.data.toList
            · have hq := eq_str hgv
              clear hgv
              go_wp2_with fail
              refine (zzsel_any kind name ns o (some w.heap.size) t Db T w3 (.inr ⟨_, _, rfl, hob3⟩) (HT.out.next BL3.out)).mono ?_
              rintro e w4 ⟨x1, rfl, hx1, b1⟩
              have X1 := hide hx1
              have BL4 : Hid (Below w.heap.size w w4) := BL3.out.trans (b1.mono BL3.out.size)
              have B4 := hide b1
              clear b1 hx1
              go_wp2_with fail
              refine (zzsel_any kind name ns o (some wr.heap.size) t _ T w4 (MapIs.next (.inr ⟨_, _, rfl, hos3⟩) B4.out) (HT.out.next BL4.out)).mono ?_
              rintro e w5 ⟨x2, rfl, hx2, b2⟩
              have X2 := hide hx2
              have BL5 : Hid (Below w.heap.size w w5) := BL4.out.trans (b2.mono BL4.out.size)
              have B5 : Hid (Below w3.heap.size w3 w5) := B4.out.trans (b2.mono B4.out.size)
              clear b2 hx2
              go_wp2_with fail
              refine (zzsel_any kind name ns o (some (w.heap.size + 1)) t Dg T w5 (MapIs.next (.inr ⟨_, _, rfl, hog3⟩) B5.out) (HT.out.next BL5.out)).mono ?_
              rintro e w6 ⟨x3, rfl, hx3, b3⟩
              have BL6 : Hid (Below w.heap.size w w6) := BL5.out.trans (b3.mono BL5.out.size)
              obtain ⟨e1, e2⟩ := answers (K := .string k.data.toList) trivial HB4.out HGA.out X1.out X2.out hx3
              have hb0 : ((n : Int) == 0) = true → x1 = true := fun h0 => by
                have h0' : n = 0 := by simpa using h0
                exact X1.out.2 (by rw [HEM.out h0']; exact sel_empty)
              clear b3 hx3
              rw [HH.out, hq, Bool.true_and] at e1
              subst e1
              subst e2
              clear X1 X2 HEM HB4 HGA
              cases hz : ((n : Int) == 0)
              · cases x1
                all_goals
                  go_wp2
                  go_ret
                  exact ⟨rfl, BL6.out⟩
              · obtain rfl := hb0 hz
                go_wp2
                go_ret
                exact ⟨rfl, BL6.out⟩
            · have hq := ne_str hgv
              clear hgv
              go_wp2_with fail
              refine (zzsel_any kind name ns o (some w.heap.size) t Db T w3 (.inr ⟨_, _, rfl, hob3⟩) (HT.out.next BL3.out)).mono ?_
              rintro e w4 ⟨x1, rfl, hx1, b1⟩
              have X1 := hide hx1
              have BL4 : Hid (Below w.heap.size w w4) := BL3.out.trans (b1.mono BL3.out.size)
              have B4 := hide b1
              clear b1 hx1
              go_wp2_with fail
              refine (zzsel_any kind name ns o (some wr.heap.size) t _ T w4 (MapIs.next (.inr ⟨_, _, rfl, hos3⟩) B4.out) (HT.out.next BL4.out)).mono ?_
              rintro e w5 ⟨x2, rfl, hx2, b2⟩
              have X2 := hide hx2
              have BL5 : Hid (Below w.heap.size w w5) := BL4.out.trans (b2.mono BL4.out.size)
              have B5 : Hid (Below w3.heap.size w3 w5) := B4.out.trans (b2.mono B4.out.size)
              clear b2 hx2
              go_wp2_with fail
              refine (zzsel_any kind name ns o (some (w.heap.size + 1)) t Dg T w5 (MapIs.next (.inr ⟨_, _, rfl, hog3⟩) B5.out) (HT.out.next BL5.out)).mono ?_
              rintro e w6 ⟨x3, rfl, hx3, b3⟩
              have BL6 : Hid (Below w.heap.size w w6) := BL5.out.trans (b3.mono BL5.out.size)
              obtain ⟨e1, e2⟩ := answers (K := .string k.data.toList) trivial HB4.out HGA.out X1.out X2.out hx3
              have hb0 : ((n : Int) == 0) = true → x1 = true := fun h0 => by
                have h0' : n = 0 := by simpa using h0
                exact X1.out.2 (by rw [HEM.out h0']; exact sel_empty)
              clear b3 hx3
              rw [HH.out, hq, Bool.true_and] at e1
              subst e1
              subst e2
              clear X1 X2 HEM HB4 HGA
              cases hz : ((n : Int) == 0)
              · cases x1
                all_goals
                  go_wp2
                  go_ret
                  exact ⟨rfl, BL6.out⟩
              · obtain rfl := hb0 hz
                go_wp2
                go_ret
                exact ⟨rfl, BL6.out⟩
end
end Go.Proofs.Qxb6617744a
