import Derived.Test.Qxb6001364aItems
namespace Go.Proofs.Qxb6001364a
open Go.ChangeShapes Go.WideShapes Go.ChangeAt Go.RowKit Go.Maps
attribute [local go_sem ↓] Go.wp_at_zero Go.wp_at_succ

/-- Some node reads another node's write of an item, and that writer writes the item again after the read. -/
def BadH (zs : List Int) (wrs : List Bool) (its : List Nat) : Prop :=
  ∃ (i j l x : Nat) (a b : Int), i < j ∧ j < l ∧ wrs[i]? = some true ∧ wrs[j]? = some false ∧ wrs[l]? = some true ∧ its[i]? = some x ∧ its[j]? = some x ∧ its[l]? = some x ∧ zs[i]? = some a ∧ zs[l]? = some a ∧ zs[j]? = some b ∧ a ≠ b ∧
    ∀ u, i < u → u < j → its[u]? = some x → wrs[u]? ≠ some true

/-- The map's entries: a write of that node and item. -/
def LastW (zs : List Int) (wrs : List Bool) (its : List Nat) (t : Nat) (f : Int × Int → Option Value) : Prop :=
  ∀ key v, f key = some v → ∃ l x : Nat, v = .int .i64 l ∧ l < t ∧ wrs[l]? = some true ∧ zs[l]? = some key.1 ∧ its[l]? = some x ∧ key.2 = x

theorem lastW_put {zs : List Int} {wrs : List Bool} {its : List Nat} {t x : Nat} {z : Int} {f : Int × Int → Option Value} (h : LastW zs wrs its t f) (hw : wrs[t]? = some true) (hz : zs[t]? = some z) (hx : its[t]? = some x) : LastW zs wrs its (t + 1) (updG f (z, (x : Int)) (.int .i64 (t : Int))) := fun key v hv => by
  by_cases e : key = (z, (x : Int))
  · subst e
    simp [updG] at hv
    exact ⟨t, x, hv.symm, Nat.lt_succ_self _, hw, hz, hx, rfl⟩
  · simp [updG, e] at hv
    obtain ⟨l, x', h1, h2, h3⟩ := h key v hv
    exact ⟨l, x', h1, by omega, h3⟩
theorem lastW_mono {zs : List Int} {wrs : List Bool} {its : List Nat} {t : Nat} {f : Int × Int → Option Value} (h : LastW zs wrs its t f) : LastW zs wrs its (t + 1) f := fun key v hv => by
  obtain ⟨l, x', h1, h2, h3⟩ := h key v hv
  exact ⟨l, x', h1, by omega, h3⟩

/-- cur's cells: of each item its last write below j. -/
def CurAt (wrs : List Bool) (its : List Nat) (A : Array Value) (k j : Nat) : Prop :=
  ∀ x, x < k → ∃ c : Int, A[x]? = some (.int .i64 c) ∧ -1 ≤ c ∧ c < j ∧ ∀ i : Nat, c = i → wrs[i]? = some true ∧ its[i]? = some x ∧ ∀ u, i < u → u < j → its[u]? = some x → wrs[u]? ≠ some true

theorem curAt_write {wrs : List Bool} {its : List Nat} {A : Array Value} {k j x : Nat} (h : CurAt wrs its A k j) (hs : A.size = k) (hw : wrs[j]? = some true) (hx : its[j]? = some x) (hxk : x < k) : CurAt wrs its (A.setIfInBounds x (.int .i64 (j : Int))) k (j + 1) := fun y hy => by
  by_cases e : y = x
  · subst e
    refine ⟨j, by rw [Array.getElem?_setIfInBounds_self_of_lt (by omega)], by omega, by omega, fun i hi => ?_⟩
    have : i = j := by omega
    subst this
    exact ⟨hw, hx, fun u h1 h2 => by omega⟩
  · obtain ⟨c, h1, h2, h3, h4⟩ := h y hy
    refine ⟨c, by rw [Array.getElem?_setIfInBounds_ne (by omega)]; exact h1, h2, by omega, fun i hi => ?_⟩
    obtain ⟨h5, h6, h7⟩ := h4 i hi
    refine ⟨h5, h6, fun u h8 h9 h10 => ?_⟩
    by_cases eu : u = j
    · subst eu
      rw [hx] at h10
      cases h10
      exact absurd rfl e
    · exact h7 u h8 (by omega) h10
theorem curAt_read {wrs : List Bool} {its : List Nat} {A : Array Value} {k j : Nat} (h : CurAt wrs its A k j) (hw : wrs[j]? = some false) : CurAt wrs its A k (j + 1) := fun y hy => by
  obtain ⟨c, h1, h2, h3, h4⟩ := h y hy
  refine ⟨c, h1, h2, by omega, fun i hi => ?_⟩
  obtain ⟨h5, h6, h7⟩ := h4 i hi
  refine ⟨h5, h6, fun u h8 h9 h10 => ?_⟩
  by_cases eu : u = j
  · subst eu
    rw [hw]
    simp
  · exact h7 u h8 (by omega) h10

theorem below_drawn {B : Nat} {w w' : World} (h : Below B w w') (n : Nat) : Below B w (w'.drewN n) := ⟨h.os, h.tape, h.output, h.size, h.block⟩

set_option maxRecDepth 100000 in
set_option maxHeartbeats 2000000 in
theorem over_any (a1 a2 a3 : Option Addr) (c1 c2 c3 : Nat) (zs : List Int) (wrs : List Bool) (its : List Nat) (k : Nat) (w : World) (h1 : RowView w a1 (zs.map (Value.int .i64))) (h2 : RowView w a2 (wrs.map Value.bool)) (h3 : RowView w a3 (its.map fun t : Nat => Value.int .i64 (t : Int)))
    (hz : zs.length ≤ 65536) (hl2 : wrs.length = zs.length) (hl3 : its.length = zs.length) (hk : k ≤ 65536) (hit : ∀ t ∈ its, t < k) (hfz : ∀ z ∈ zs, Fits z) :
    Calls Try.prog 20 #[.slice a1 zs.length c1, .slice a2 zs.length c2, .slice a3 zs.length c3, .int .i64 k] w fun e w' => RetB (BadH zs wrs its) e ∧ Below w.heap.size w w' := by
  have hmm := @run_makeMap Try.prog
  go_enter Try.func20, Try.ntmps20
  go_wp2
  clear hmm
  go_loopw [10] (fun iv wr => ∃ (t : Nat) (f : Int × Int → Option Value), t ≤ zs.length ∧ iv = .int .i64 t ∧ MapG kP 60 wr w.heap.size t f ∧ LastW zs wrs its t f ∧ Below w.heap.size w wr) (fun iv _ => zs.length - (intOf iv).toNat)
  case atStart =>
    exact ⟨0, fun _ => none, Nat.zero_le _, rfl, MapG.made (heap_alloc_new w _), (fun key v h => by cases h), (Below.refl _ _).alloc (Nat.le_refl _) _⟩
  case round =>
    obtain ⟨t, f, ht, rfl, hM, hL, hbel⟩ := hrel
    by_cases hlt : t < zs.length
    · obtain ⟨z, hzt⟩ : ∃ s, zs[t]? = some s := ⟨_, List.getElem?_eq_getElem hlt⟩
      obtain ⟨wb, hwt⟩ : ∃ s, wrs[t]? = some s := ⟨_, List.getElem?_eq_getElem (by omega)⟩
      obtain ⟨x, hxt⟩ : ∃ s, its[t]? = some s := ⟨_, List.getElem?_eq_getElem (by omega)⟩
      obtain ⟨b1, o1, ix1, lb1, hc1⟩ := h1.int hzt zs.length c1 hlt
      obtain ⟨b2, o2, ix2, lb2, hc2⟩ := h2.bool hwt zs.length c2 hlt
      obtain ⟨b3, o3, ix3, lb3, hc3⟩ := RowView.int (zs := its.map fun t : Nat => (t : Int)) (by simpa [Function.comp_def] using h3) (k := t) (z := (x : Int)) (by simp [hxt]) zs.length c3 hlt
      have r1 : wr.cell? ⟨b1, o1 + t, none⟩ = some (.int .i64 z) := by rw [hbel.cell (by exact lb1)]; exact hc1
      have r2 : wr.cell? ⟨b2, o2 + t, none⟩ = some (.bool wb) := by rw [hbel.cell (by exact lb2)]; exact hc2
      have r3 : wr.cell? ⟨b3, o3 + t, none⟩ = some (.int .i64 (x : Int)) := by rw [hbel.cell (by exact lb3)]; exact hc3
      have hxk := hit x (List.mem_of_getElem? hxt)
      have hfit := hfz z (List.mem_of_getElem? hzt)
      have HM : Hid (MapG kP 60 wr w.heap.size t f) := hM
      have HL : Hid (LastW zs wrs its t f) := hL
      have HB : Hid (Below w.heap.size w wr) := hbel
      have HZ : Hid (zs[t]? = some z) := hzt
      have HW : Hid (wrs[t]? = some wb) := hwt
      have HX : Hid (its[t]? = some x) := hxt
      clear h1 h2 h3 hc1 hc2 hc3 hM hL hbel hzt hwt hxt hit hfz
      cases wb with
      | false =>
        go_wp2
        go_roundw
        case rel => exact ⟨t + 1, f, by omega, by go_num, HM.out.mono (Nat.le_succ _), lastW_mono HL.out, HB.out⟩
        case measure => simp [intOf]; omega
      | true =>
        obtain ⟨l, hkey⟩ := kP_key (x := (z, (x : Int))) hfit (by constructor <;> simp <;> omega)
        have hMd : MapG kP 60 wr.drew w.heap.size t f := HM.out
        obtain ⟨x1, hput, hM1, hg1⟩ := hMd.put 59 3 law60 Try.underlying59 (by unfold maxLen; omega) kP_inj hkey (v := .int .i64 (t : Int)) rfl
        have HM1 : Hid (MapG kP 60 x1 w.heap.size (t + 1) (updG f (z, (x : Int)) (.int .i64 (t : Int)))) := hM1
        have HG1 : Hid (wr.drew.grownBy x1 (some w.heap.size)) := hg1
        unfold kP at hput
        clear hM1 hg1 hMd hfit hkey
        go_wp2
        go_region
        all_goals
          go_wp2
          go_roundw
          case rel => exact ⟨t + 1, _, by omega, by go_num, HM1.out, lastW_put HL.out HW.out HZ.out HX.out, HB.out.drew.grown HG1.out (by exact HB.out.size) (fun j hj => by cases hj; exact Nat.le_refl _)⟩
          case measure => simp [intOf]; omega
    · have htt : t = zs.length := by omega
      subst htt
      obtain ⟨M, hMs, _, hmk⟩ := make_row 22 3 (.int .i64 0) 8 Try.underlying22 Try.info3 rfl k (by omega) (by omega)
      have hk0 : (k : Int) ≤ 65536 := by omega
      go_wp2
      obtain ⟨w1, hw1⟩ : ∃ w1 : World, w1 = wr := ⟨_, rfl⟩
      rw [← hw1] at hM hbel ⊢
      clear hw1 hmk
      have HM : Hid (MapG kP 60 w1 w.heap.size zs.length f) := hM
      have HL : Hid (LastW zs wrs its zs.length f) := hL
      have HB : Hid (Below w.heap.size w w1) := hbel
      clear hM hL hbel
      go_loopw [12] (fun iv wi => ∃ (t : Nat) (A : Array Value), t ≤ k ∧ iv = .int .i64 t ∧ wi.heap[w1.heap.size]? = some (.cells A 3 (0, 0)) ∧ A.size = k ∧ (∀ y, y < t → A[y]? = some (.int .i64 (-1))) ∧ Below w1.heap.size w1 wi) (fun iv _ => k - (intOf iv).toNat)
      case atStart => exact ⟨0, M, Nat.zero_le _, rfl, heap_alloc_new w1 _, hMs, fun y hy => absurd hy (Nat.not_lt_zero _), (Below.refl _ _).alloc (Nat.le_refl _) _⟩
      case round =>
        obtain ⟨t, A, htk, rfl, hA, hAs, hAm, hbel1⟩ := hrel
        by_cases hlt : t < k
        · have hcw : wr.cell? ⟨w1.heap.size, t, none⟩ = some (A[t]'(by omega)) := by rw [cell_of_row wr _ _ _ _ _ hA, Array.getElem?_eq_getElem]
          have hfw : wr.frozen? ⟨w1.heap.size, t, none⟩ = false := frozen_of_row wr _ _ _ _ hA
          have HA : Hid (wr.heap[w1.heap.size]? = some (.cells A 3 (0, 0))) := hA
          have HAm : Hid (∀ y, y < t → A[y]? = some (.int .i64 (-1))) := hAm
          have HB1 : Hid (Below w1.heap.size w1 wr) := hbel1
          clear hA hAm hbel1 h1 h2 h3 hit hfz
          go_wp2
          go_roundw
          case rel =>
            refine ⟨t + 1, _, by omega, by go_num, heap_setCell_same _ _ _ _ _ _ HA.out, by simpa using hAs, fun y hy => ?_, HB1.out.setCell (by exact Nat.le_refl _) _⟩
            by_cases e : y = t
            · subst e
              rw [Array.getElem?_setIfInBounds_self_of_lt (by omega)]
            · rw [Array.getElem?_setIfInBounds_ne (by omega)]
              exact HAm.out y (by omega)
          case measure => simp [intOf]; omega
        · have hC0 : CurAt wrs its A k 0 := fun y hy => ⟨-1, hAm y (by omega), by omega, by omega, fun i hi => by omega⟩
          clear hAm
          go_wp2
          obtain ⟨w2, hw2⟩ : ∃ w2 : World, w2 = wr := ⟨_, rfl⟩
          rw [← hw2] at hA hbel1 ⊢
          clear hw2
          go_loopw [13] (fun iv wj => ∃ (j : Nat) (A : Array Value), j ≤ zs.length ∧ iv = .int .i64 j ∧ wj.heap[w1.heap.size]? = some (.cells A 3 (0, 0)) ∧ A.size = k ∧ CurAt wrs its A k j ∧ Below w1.heap.size w1 wj) (fun iv _ => zs.length - (intOf iv).toNat)
          case atStart => exact ⟨0, A, Nat.zero_le _, rfl, hA, hAs, hC0, hbel1⟩
          case round =>
            clear hA hAs hC0 hbel1
            obtain ⟨j, A, hj, rfl, hA, hAs, hC, hbel1⟩ := hrel
            have hball : Below w.heap.size w wr := HB.out.trans (hbel1.mono HB.out.size)
            by_cases hlj : j < zs.length
            · obtain ⟨z, hzt⟩ : ∃ s, zs[j]? = some s := ⟨_, List.getElem?_eq_getElem hlj⟩
              obtain ⟨wb, hwt⟩ : ∃ s, wrs[j]? = some s := ⟨_, List.getElem?_eq_getElem (by omega)⟩
              obtain ⟨x, hxt⟩ : ∃ s, its[j]? = some s := ⟨_, List.getElem?_eq_getElem (by omega)⟩
              obtain ⟨b1, o1, ix1, lb1, hc1⟩ := h1.int hzt zs.length c1 hlj
              obtain ⟨b2, o2, ix2, lb2, hc2⟩ := h2.bool hwt zs.length c2 hlj
              obtain ⟨b3, o3, ix3, lb3, hc3⟩ := RowView.int (zs := its.map fun t : Nat => (t : Int)) (by simpa [Function.comp_def] using h3) (k := j) (z := (x : Int)) (by simp [hxt]) zs.length c3 hlj
              have r1 : wr.cell? ⟨b1, o1 + j, none⟩ = some (.int .i64 z) := by rw [hball.cell (by exact lb1)]; exact hc1
              have r2 : wr.cell? ⟨b2, o2 + j, none⟩ = some (.bool wb) := by rw [hball.cell (by exact lb2)]; exact hc2
              have r3 : wr.cell? ⟨b3, o3 + j, none⟩ = some (.int .i64 (x : Int)) := by rw [hball.cell (by exact lb3)]; exact hc3
              have hxk := hit x (List.mem_of_getElem? hxt)
              obtain ⟨cv, hcA, hcv1, hcv2, hcv3⟩ := hC x hxk
              have hcw : wr.cell? ⟨w1.heap.size, x, none⟩ = some (.int .i64 cv) := by rw [cell_of_row wr _ _ _ _ _ hA]; exact hcA
              have hfw : wr.frozen? ⟨w1.heap.size, x, none⟩ = false := frozen_of_row wr _ _ _ _ hA
              have HA : Hid (wr.heap[w1.heap.size]? = some (.cells A 3 (0, 0))) := hA
              have HC : Hid (CurAt wrs its A k j) := hC
              have HB1 : Hid (Below w1.heap.size w1 wr) := hbel1
              have HZ : Hid (zs[j]? = some z) := hzt
              have HW : Hid (wrs[j]? = some wb) := hwt
              have HX : Hid (its[j]? = some x) := hxt
              have hxi : (x : Int) < (k : Int) := by omega
              cases wb with
              | true =>
                clear h1 h2 h3 hc1 hc2 hc3 hA hC hbel1 hzt hwt hxt hit hfz hcA hcv3 hball
                go_wp2
                go_roundw
                case rel => exact ⟨j + 1, _, by omega, by go_num, heap_setCell_same _ _ _ _ _ _ HA.out, by simpa using hAs, curAt_write HC.out hAs HW.out HX.out hxk, HB1.out.setCell (by exact Nat.le_refl _) _⟩
                case measure => simp [intOf]; omega
              | false =>
                by_cases hneg : cv < 0
                · have hd : decide (cv < 0) = true := by simpa using hneg
                  clear h1 h2 h3 hc1 hc2 hc3 hA hC hbel1 hzt hwt hxt hit hfz hcA hcv3 hball
                  go_wp2
                  go_quiet (fail)
                  go_wp2
                  go_roundw
                  case rel => exact ⟨j + 1, A, by omega, by go_num, HA.out, hAs, curAt_read HC.out HW.out, below_drawn HB1.out _⟩
                  case measure => simp [intOf]; omega
                · obtain ⟨i, hi⟩ : ∃ i : Nat, cv = i := ⟨cv.toNat, by omega⟩
                  subst hi
                  obtain ⟨hwi, hii, hbet⟩ := hcv3 i rfl
                  have hil : i < zs.length := by omega
                  obtain ⟨y, hyt⟩ : ∃ s, zs[i]? = some s := ⟨_, List.getElem?_eq_getElem hil⟩
                  obtain ⟨b4, o4, ix4, lb4, hc4⟩ := h1.int hyt zs.length c1 hil
                  have r4 : wr.cell? ⟨b4, o4 + i, none⟩ = some (.int .i64 y) := by rw [hball.cell (by exact lb4)]; exact hc4
                  have hd : decide ((i : Int) < 0) = false := by simp
                  by_cases hyz : y = z
                  · have hbeq : (y == z) = true := by simpa using hyz
                    clear h1 h2 h3 hc1 hc2 hc3 hc4 hA hC hbel1 hzt hwt hxt hit hfz hcA hcv3 hball hyz hbet
                    go_wp2
                    go_quiet (fail)
                    go_wp2
                    go_roundw
                    case rel => exact ⟨j + 1, A, by omega, by go_num, HA.out, hAs, curAt_read HC.out HW.out, below_drawn HB1.out _⟩
                    case measure => simp [intOf]; omega
                  · have hbeq : (y == z) = false := by simpa using hyz
                    obtain ⟨l, hkey⟩ := kP_key (x := (y, (x : Int))) (hfz y (List.mem_of_getElem? hyt)) (by constructor <;> simp <;> omega)
                    have hMr : MapG kP 60 wr w.heap.size zs.length f := HM.out.same (hbel1.block _ HM.out.lt)
                    have hlook : ∀ q, (Instr.lookup 59 (.map (some w.heap.size)) (.agg #[.int .i64 y, .int .i64 (x : Int)]) false).run Try.prog (wr.drewN q) = .ok ((f (y, (x : Int))).getD (.int .i64 0)) (wr.drewN q) := fun q => (MapG.look (w := wr.drewN q) 59 3 (.int .i64 0) hMr law60 Try.underlying59 zero3 rfl hkey).2
                    cases hfv : f (y, (x : Int)) with
                    | none =>
                      rw [hfv] at hlook
                      clear h1 h2 h3 hc1 hc2 hc3 hc4 hA hC hbel1 hzt hwt hxt hit hfz hcA hcv3 hball hyz hbet hMr hkey
                      go_wp2
                      go_quiet (fail)
                      go_wp2_with (at_lookup; go_must (refine wpList_look_run _ rfl 59 _ _ false rfl _ _ _ rfl rfl (hlook _) ?_))
                      go_roundw
                      case rel => exact ⟨j + 1, A, by omega, by go_num, HA.out, hAs, curAt_read HC.out HW.out, below_drawn HB1.out _⟩
                      case measure => simp [intOf]; omega
                    | some v =>
                      obtain ⟨l', x', rfl, hl1, hl2', hl3', hl4, hl5⟩ := HL.out _ v hfv
                      have hxx : x' = x := by have : (x : Int) = x' := hl5; omega
                      subst hxx
                      rw [hfv] at hlook
                      have hbad : j < l' → BadH zs wrs its := fun hjl => ⟨i, j, l', x', y, z, by omega, hjl, hwi, HW.out, hl2', hii, HX.out, hl4, hyt, hl3', HZ.out, hyz, hbet⟩
                      have HBAD : Hid (j < l' → BadH zs wrs its) := hbad
                      clear h1 h2 h3 hc1 hc2 hc3 hc4 hA hC hbel1 hzt hwt hxt hit hfz hcA hcv3 hyz hbet hMr hkey hbad hl5
                      have HBL : Hid (Below w.heap.size w wr) := hball
                      clear hball
                      by_cases hjl : j < l'
                      · go_wp2
                        go_quiet (fail)
                        go_wp2_with (at_lookup; go_must (refine wpList_look_run _ rfl 59 _ _ false rfl _ _ _ rfl rfl (hlook _) ?_))
                        go_ret
                        exact ⟨RetB.yes _ (HBAD.out hjl), below_drawn HBL.out _⟩
                      · go_wp2
                        go_quiet (fail)
                        go_wp2_with (at_lookup; go_must (refine wpList_look_run _ rfl 59 _ _ false rfl _ _ _ rfl rfl (hlook _) ?_))
                        go_roundw
                        case rel => exact ⟨j + 1, A, by omega, by go_num, HA.out, hAs, curAt_read HC.out HW.out, below_drawn HB1.out _⟩
                        case measure => simp [intOf]; omega
            · clear hC hA
              go_wp2
              go_ret
              exact ⟨RetB.no _, hball⟩
end Go.Proofs.Qxb6001364a
