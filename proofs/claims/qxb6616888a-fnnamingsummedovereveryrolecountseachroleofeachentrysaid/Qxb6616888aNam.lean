import Derived.Test.Qxb6616888aNamPlain
import Derived.RegionTactic
namespace Go.Proofs.Qxb6616888a
open Go.RowKit Go.ChangeMaps

/-- What the k-th of the two relations is. -/
def nth (A R : Nat) (EA ER : List Ent) (k : Nat) : Nat × List Ent := if k = 0 then (A, EA) else (R, ER)
def cntTo (t : Nat) (EA ER : List Ent) (k : Nat) : Nat := if k = 0 then 0 else if k = 1 then EA.countP (named t) else EA.countP (named t) + ER.countP (named t)
theorem cntTo_step (A R t : Nat) (EA ER : List Ent) (k : Nat) (hk : k < 2) : cntTo t EA ER (k + 1) = cntTo t EA ER k + (nth A R EA ER k).2.countP (named t) := by
  have : k = 0 ∨ k = 1 := by omega
  rcases this with rfl | rfl <;> simp [cntTo, nth]

theorem PolMap.open {w : World} {b B0 : Nat} {ρ : Nat → Nat} {E : List Ent} (h : PolMap w b B0 ρ E) (M : Ent → Bool) :
    ∃ (es : Array MapEntry) (clock : Nat) (N : MapEntry → Bool), w.heap[b]? = some (.map es clock) ∧ (∀ x ∈ es.toList, x.born < clock) ∧ (es.toList.map (·.born)).Nodup ∧ es.toList.countP N = E.countP M ∧ es.toList.length = E.length ∧
      ∀ x ∈ es.toList, ∃ e ∈ E, x.key = keyE ρ e ∧ PreAt w B0 ρ x.val e.2.2.2 ∧ N x = M e := by
  obtain ⟨kv, ⟨es, clock, hb, hs, hkv⟩, h2, h3⟩ := h
  have hst := (MapKept.stamped_iff es clock).1 hs
  obtain ⟨N, hN⟩ := fellow (E := E) es.toList hst.2.2 M
  have hlen : es.toList.length = E.length := by
    have e1 := congrArg List.length h2
    rw [← hkv] at e1
    simpa using e1
  refine ⟨es, clock, N, hb, hst.1, hst.2.1, cnt_zip N M _ _ hlen hN, hlen, fun x hx => ?_⟩
  obtain ⟨i, hi⟩ := List.getElem?_of_mem hx
  have hil := (List.getElem?_eq_some_iff.1 hi).1
  have hE : E[i]? = some (E[i]'(by omega)) := List.getElem?_eq_getElem (by omega)
  have hkvi : kv[i]? = some (x.key, x.val) := by rw [← hkv, List.getElem?_map, hi]; rfl
  refine ⟨_, List.mem_of_getElem? hE, ?_, h3 i _ _ hkvi hE, hN i x _ hi hE⟩
  have e2 : (kv.map (·.1))[i]? = (E.map (keyE ρ))[i]? := by rw [h2]
  rw [List.getElem?_map, List.getElem?_map, hkvi, hE] at e2
  simpa using e2

theorem PreAt.below {B B0 : Nat} {w w' : World} {ρ : Nat → Nat} {v : Value} {c : Option Nat} (h : PreAt w B0 ρ v c) (hb : Below B w w') (hB : w.heap.size ≤ B) : PreAt w' B0 ρ v c := by
  obtain ⟨pb, nb, rfl, h1, h2, h3, h4⟩ := h
  have l1 : pb < w.heap.size := (Array.getElem?_eq_some_iff.1 h3).1
  exact ⟨pb, nb, rfl, h1, h2, by rw [hb.block pb (by omega)]; exact h3, h4.of_block (hb.block nb (by have := h4.lt; omega))⟩
theorem Roles.below {B : Nat} {w w' : World} {ρ : Nat → Nat} (h : Roles w ρ) (hb : Below B w w') (hB : w.heap.size ≤ B) : Roles w' ρ :=
  ⟨fun j hj => (h.role j hj).below hb (by have := (h.role j hj).lt; omega), h.inj⟩
theorem PolMap.below {B b B0 : Nat} {w w' : World} {ρ : Nat → Nat} {E : List Ent} (h : PolMap w b B0 ρ E) (hb : Below B w w') (hB : w.heap.size ≤ B) : PolMap w' b B0 ρ E := by
  obtain ⟨kv, h1, h2, h3⟩ := h
  exact ⟨kv, h1.of_block (hb.block b (by have := h1.lt; omega)), h2, fun i p e hp he => (h3 i p e hp he).below hb hB⟩

theorem eq_role {W : World} {ρ : Nat → Nat} {i t : Nat} (h : Roles W ρ) (hi : i < 256) (ht : t < 256) : (binOp .eql 35 (rp (ρ i)) (rp (ρ t))).run Try.prog W = .ok (.bool (i == t)) W := by
  rw [binop_ptr (h.role i hi) (h.role t ht)]
  have e : decide (ρ i = ρ t) = (i == t) := by
    by_cases e : i = t
    · subst e; simp
    · have : ρ i ≠ ρ t := fun e2 => e (h.inj i t hi ht e2)
      simp [e, this]
  rw [e]

theorem zero4 (w : World) : (zeroValue 4).run Try.prog w = .ok (.bool false) w := by kernel_rfl

/-- 'pre.names[r]'. -/
theorem names_look {W : World} {B0 t : Nat} {ρ : Nat → Nat} {v : Value} {c : Option Nat} (h : PreAt W B0 ρ v c) (hr : Roles W ρ) (ht : t < 256) (hc : ∀ x, c = some x → x < 256) :
    ∃ pb nb, v = rp pb ∧ W.cell? ⟨pb, 1, none⟩ = some (.map (some nb)) ∧ (Instr.lookup 52 (.map (some nb)) (rp (ρ t)) false).run Try.prog W = .ok (.bool (c == some t)) W := by
  obtain ⟨pb, nb, rfl, _, _, h3, h4⟩ := h
  refine ⟨pb, nb, rfl, by unfold World.cell?; rw [h3]; rfl, ?_⟩
  have hK : ∀ p ∈ namesKV ρ c, KP W p.1 := fun p hp => by
    cases c with
    | none => simp [namesKV] at hp
    | some x => simp [namesKV] at hp; subst hp; exact ⟨_, rfl, hr.role x (hc x rfl)⟩
  rcases h4.look (keyP W) Try.underlying52 (zero4 W) hK ⟨_, rfl, hr.role t ht⟩ with ⟨hno, hrun⟩ | ⟨u, hin, hrun⟩
  · rw [hrun]
    cases c with
    | none => rfl
    | some x =>
      have hne : x ≠ t := fun e => hno (rp (ρ x), .bool true) (by simp [namesKV]) (by rw [e])
      simp [hne]
  · rw [hrun]
    cases c with
    | none => simp [namesKV] at hin
    | some x =>
      simp [namesKV] at hin
      obtain ⟨h5, rfl⟩ := hin
      have := hr.inj _ _ ht (hc x rfl) h5
      subst this
      simp

set_option maxRecDepth 100000 in
set_option maxHeartbeats 2000000 in
theorem naming_any (p A R B0 t : Nat) (ρ : Nat → Nat) (EA ER : List Ent) (w : World) (hp : PolAt w p A R) (hA : PolMap w A B0 ρ EA) (hR : PolMap w R B0 ρ ER) (hr : Roles w ρ)
    (hEA : ∀ x ∈ EA, EntOk x) (hER : ∀ x ∈ ER, EntOk x) (ht : t < 256) (hl1 : EA.length ≤ 4096) (hl2 : ER.length ≤ 4096) :
    Calls Try.prog 14 #[rp p, rp (ρ t)] w fun e w' => e = .returned (.int .i64 ((EA.countP (named t) + ER.countP (named t) : Nat) : Int)) ∧ Below w.heap.size w w' := by
  have hc4 := hp.cellA
  have hc5 := hp.cellR
  have HA := hide hA
  have HR := hide hR
  have HRo := hide hr
  have HEA := hide hEA
  have HER := hide hER
  have HL1 := hide hl1
  have HL2 := hide hl2
  clear hp hA hR hr hEA hER hl1 hl2
  go_enter Try.func14, Try.ntmps14
  go_wp2
  go_region
  go_wp2
  clear hc4 hc5
  have HW : Hid (Below w.heap.size w (w.alloc (.cells #[.map (some A), .map (some R)] 47)).drew) := ((Below.refl _ _).alloc (Nat.le_refl _) _).drew
  have HC0 : Hid ((w.alloc (.cells #[.map (some A), .map (some R)] 47)).drew.cell? ⟨w.heap.size, 0, none⟩ = some (.map (some A))) := cell_new w _ 47 0
  have HC1 : Hid ((w.alloc (.cells #[.map (some A), .map (some R)] 47)).drew.cell? ⟨w.heap.size, 1, none⟩ = some (.map (some R))) := cell_new w _ 47 1
  have HSZ : Hid ((w.alloc (.cells #[.map (some A), .map (some R)] 47)).drew.heap.size = w.heap.size + 1) := by simp [Hid]
  generalize (w.alloc (.cells #[.map (some A), .map (some R)] 47)).drew = W0 at *
  go_loopw [5, 20] (fun n i wr => ∃ (k m : Nat), k ≤ 2 ∧ i = .int .i64 k ∧ n = .int .i64 m ∧ m ≤ 4096 * k ∧ Hid (m = cntTo t EA ER k) ∧ Hid (Below W0.heap.size W0 wr)) (fun _ i _ => 2 - (intOf i).toNat)
  case atStart => exact ⟨0, 0, by omega, rfl, rfl, by omega, rfl, Below.refl _ _⟩
  case round =>
    rename World => wo
    obtain ⟨k, m, hk, rfl, rfl, hm, HM, HBr⟩ := hrel
    by_cases hlt : k < 2
    · obtain ⟨b, E, hcell, hPM, hEok, hEl, hstep⟩ : ∃ (b : Nat) (E : List Ent), wo.cell? ⟨w.heap.size, k, none⟩ = some (.map (some b)) ∧ PolMap wo b B0 ρ E ∧ (∀ x ∈ E, EntOk x) ∧ E.length ≤ 4096 ∧ cntTo t EA ER (k + 1) = cntTo t EA ER k + E.countP (named t) := by
        have hs : w.heap.size < W0.heap.size := by have := HSZ.out; omega
        have hb2 : Below w.heap.size w wo := HW.out.trans (HBr.out.mono HW.out.size)
        have h01 : k = 0 ∨ k = 1 := by omega
        rcases h01 with rfl | rfl
        · exact ⟨A, EA, (HBr.out.cell (p := ⟨w.heap.size, 0, none⟩) hs).trans HC0.out, HA.out.below hb2 (Nat.le_refl _), HEA.out, HL1.out, cntTo_step A R t EA ER 0 (by omega)⟩
        · exact ⟨R, ER, (HBr.out.cell (p := ⟨w.heap.size, 1, none⟩) hs).trans HC1.out, HR.out.below hb2 (Nat.le_refl _), HER.out, HL2.out, cntTo_step A R t EA ER 1 (by omega)⟩
      obtain ⟨es, clock, N, hmb, hborn, hnod, hcN, hlen, hent⟩ := hPM.open (named t)
      have hdk : decide ((k : Int) < 2) = true := by simp; omega
      have hrange := run_range_map (P := Try.prog) wo 47 59 51 b es clock Try.underlying47 hmb
      have hbl : b < wo.heap.size := (Array.getElem?_eq_some_iff.1 hmb).1
      have HMB := hide hmb
      have HBO := hide hborn
      have HND := hide hnod
      have HCN := hide hcN
      have HLN := hide hlen
      have HEN := hide hent
      have HEO := hide hEok
      have HST := hide hstep
      have HEL := hide hEl
      clear hPM hEok hEl hstep hmb hborn hnod hcN hlen hent
      go_wp2
      clear hrange hcell
      have HI0 : Hid ((wo.alloc (.mapIter (some b) clock #[] clock)).heap[wo.heap.size]? = some (.mapIter (some b) clock #[] clock)) := (MapKept.heap_alloc wo _).1
      have HBI : Hid (Below wo.heap.size wo (wo.alloc (.mapIter (some b) clock #[] clock))) := (Below.refl _ _).alloc (Nat.le_refl _) _
      generalize wo.alloc (.mapIter (some b) clock #[] clock) = wi0 at *
      go_loopw [5] (fun n wi => ∃ (seen : Array Nat) (c0 c : Nat), n = .int .i64 ((m : Int) + (c : Int)) ∧ c ≤ 4096 ∧ Hid (c = es.toList.countP (fun y => seen.contains y.born && N y)) ∧ Hid (wi.heap[wo.heap.size]? = some (.mapIter (some b) clock seen c0)) ∧ Hid (clock ≤ c0) ∧ Hid (Below wo.heap.size wo wi)) (fun _ wi => wi.rangeLeft b wo.heap.size)
      case atStart => exact ⟨#[], clock, 0, by simp, by omega, (cnt_start N _).symm, HI0, Nat.le_refl _, HBI⟩
      case round =>
        obtain ⟨seen, c0, c, rfl, hc, HC, HI, HCL, HB⟩ := hrel
        clear HI0 HBI
        have hmi : wr.heap[b]? = some (.map es clock) := by rw [HB.out.block b hbl]; exact HMB.out
        rcases next_step HI.out hmi HBO.out HCL.out HND.out (by omega) with ⟨hall, hnext⟩ | ⟨x, w2, hx, hsx, hshr, hnext, hentry, hi2, hb2, hm2⟩
        · have HALL : Hid (m + c = cntTo t EA ER (k + 1)) := by
            rw [Hid, HST.out, ← HM.out, HC.out, cnt_all seen N _ hall, HCN.out]
          have HB3 : Hid (Below W0.heap.size W0 wr) := HBr.out.trans (HB.out.mono HBr.out.size)
          clear hall hmi
          go_wp2
          go_roundw
          case rel => exact ⟨k + 1, m + c, by omega, by go_num, by go_num, by omega, HALL, HB3⟩
          case measure => simp [intOf]; omega
        · obtain ⟨e, heE, hkey, hpre, hNx⟩ := HEN.out x hx
          have heo := HEO.out e heE
          have hb3 : Below wo.heap.size wo w2 := HB.out.trans hb2
          obtain ⟨ea, el, eh, ec⟩ := e
          obtain ⟨sc, hsc⟩ : ∃ sc, sc = condS ec := ⟨_, rfl⟩
          have hkey2 : x.key = tup (ρ ea) sc (ρ el) (ρ eh) := by rw [hsc]; exact hkey
          have hbW : Below wo.heap.size wo (w2.alloc (.cells #[rp (ρ ea), .string sc, rp (ρ el), rp (ρ eh), .bool false, .bool false] 59)) := hb3.alloc (hb3.size) _
          have hwo : Below w.heap.size w wo := HW.out.trans (HBr.out.mono HW.out.size)
          have hroW : Roles (w2.alloc (.cells #[rp (ρ ea), .string sc, rp (ρ el), rp (ρ eh), .bool false, .bool false] 59)) ρ := (HRo.out.below hwo (Nat.le_refl _)).below hbW (Nat.le_refl _)
          have q1 := eq_role hroW heo.1 ht
          have q2 := eq_role hroW heo.2.1 ht
          have q3 := eq_role hroW heo.2.2.1 ht
          obtain ⟨pb, nb, hval, hcp, hlook⟩ := names_look (hpre.below hbW (Nat.le_refl _)) hroW ht heo.2.2.2
          rw [hkey2, hval] at hnext hentry
          have hNx2 : N x = (ea == t || el == t || eh == t || ec == some t) := hNx
          have HSTEP := hide (cnt_push seen x hsx N es.toList HND.out hx)
          have hcb : es.toList.countP (fun y => (seen.push x.born).contains y.born && N y) ≤ 4096 := Nat.le_trans List.countP_le_length (by have := HLN.out; have := HEL.out; omega)
          have HLE : Hid (w2.rangeLeft b wo.heap.size < wr.rangeLeft b wo.heap.size) := by
            simp only [Hid, World.rangeLeft, HI.out, hmi, hi2, hm2]
            exact hshr
          have HI2 : Hid ((w2.alloc (.cells #[rp (ρ ea), .string sc, rp (ρ el), rp (ρ eh), .bool false, .bool false] 59)).heap[wo.heap.size]? = some (.mapIter (some b) clock (seen.push x.born) clock)) := by
            have hl : wo.heap.size < w2.heap.size := (Array.getElem?_eq_some_iff.1 hi2).1
            rw [Hid, heap_alloc_if, if_neg (by omega)]; exact hi2
          have HLE2 : Hid ((w2.alloc (.cells #[rp (ρ ea), .string sc, rp (ρ el), rp (ρ eh), .bool false, .bool false] 59)).rangeLeft b wo.heap.size < wr.rangeLeft b wo.heap.size) := by
            have hl : wo.heap.size < w2.heap.size := (Array.getElem?_eq_some_iff.1 hi2).1
            have hl2 : b < w2.heap.size := by omega
            have e1 : (w2.alloc (.cells #[rp (ρ ea), .string sc, rp (ρ el), rp (ρ eh), .bool false, .bool false] 59)).rangeLeft b wo.heap.size = w2.rangeLeft b wo.heap.size := by
              unfold World.rangeLeft
              rw [heap_alloc_if, if_neg (by omega), heap_alloc_if, if_neg (by omega)]
            rw [Hid, e1]; exact HLE.out
          have HBW := hide hbW
          clear hx hsx hshr hmi hi2 hm2 hkey hpre hNx heo hb3 hkey2 hbW hwo hroW hval heE hsc HLE hb2
          generalize (ea == t) = y1 at *
          generalize (el == t) = y2 at *
          generalize (eh == t) = y3 at *
          generalize (ec == some t) = y4 at *
          cases y1
          · cases y2
            · cases y3
              · cases y4
                · have HNX : Hid (N x = false) := hNx2
                  have HC2 : Hid (c + 0 = es.toList.countP (fun y => (seen.push x.born).contains y.born && N y)) := by rw [Hid, HSTEP.out, HNX.out, ← HC.out]; rfl
                  have hcb2 : c + 0 ≤ 4096 := by rw [HC2.out]; exact hcb
                  clear hNx2 hcb HSTEP
                  go_wp2
                  go_roundw
                  case rel => exact ⟨seen.push x.born, clock, c + 0, by go_num, hcb2, HC2, HI2, Nat.le_refl _, HBW⟩
                  case measure => exact HLE2.out
                · have HNX : Hid (N x = true) := hNx2
                  have HC2 : Hid (c + 1 = es.toList.countP (fun y => (seen.push x.born).contains y.born && N y)) := by rw [Hid, HSTEP.out, HNX.out, ← HC.out]; rfl
                  have hcb2 : c + 1 ≤ 4096 := by rw [HC2.out]; exact hcb
                  clear hNx2 hcb HSTEP
                  go_wp2
                  go_roundw
                  case rel => exact ⟨seen.push x.born, clock, c + 1, by go_num, hcb2, HC2, HI2, Nat.le_refl _, HBW⟩
                  case measure => exact HLE2.out
              · have HNX : Hid (N x = true) := hNx2
                have HC2 : Hid (c + 1 = es.toList.countP (fun y => (seen.push x.born).contains y.born && N y)) := by rw [Hid, HSTEP.out, HNX.out, ← HC.out]; rfl
                have hcb2 : c + 1 ≤ 4096 := by rw [HC2.out]; exact hcb
                clear hNx2 hcb HSTEP
                go_wp2
                go_roundw
                case rel => exact ⟨seen.push x.born, clock, c + 1, by go_num, hcb2, HC2, HI2, Nat.le_refl _, HBW⟩
                case measure => exact HLE2.out
            · have HNX : Hid (N x = true) := hNx2
              have HC2 : Hid (c + 1 = es.toList.countP (fun y => (seen.push x.born).contains y.born && N y)) := by rw [Hid, HSTEP.out, HNX.out, ← HC.out]; rfl
              have hcb2 : c + 1 ≤ 4096 := by rw [HC2.out]; exact hcb
              clear hNx2 hcb HSTEP
              go_wp2
              go_roundw
              case rel => exact ⟨seen.push x.born, clock, c + 1, by go_num, hcb2, HC2, HI2, Nat.le_refl _, HBW⟩
              case measure => exact HLE2.out
          · have HNX : Hid (N x = true) := hNx2
            have HC2 : Hid (c + 1 = es.toList.countP (fun y => (seen.push x.born).contains y.born && N y)) := by rw [Hid, HSTEP.out, HNX.out, ← HC.out]; rfl
            have hcb2 : c + 1 ≤ 4096 := by rw [HC2.out]; exact hcb
            clear hNx2 hcb HSTEP
            go_wp2
            go_roundw
            case rel => exact ⟨seen.push x.born, clock, c + 1, by go_num, hcb2, HC2, HI2, Nat.le_refl _, HBW⟩
            case measure => exact HLE2.out
    · have HE : Hid (m = EA.countP (named t) + ER.countP (named t)) := by
        have h9 := HM.out
        have : k = 2 := by omega
        subst this
        show m = _
        simpa [cntTo] using h9
      have HB9 : Hid (Below w.heap.size w wo) := HW.out.trans (HBr.out.mono HW.out.size)
      go_wp2
      go_ret
      exact ⟨by rw [← HE.out]; rfl, HB9.out⟩
end Go.Proofs.Qxb6616888a
