import Derived.Test.Qxb6601115aPos
namespace Go.Proofs.Qxb6601115a
open Go.ChangeShapes Go.WideShapes Go.ChangeAt Go.RowKit

/-- No two GTIDs of one domain. -/
def Apart (gs : List Gt) : Prop := ∀ (i j : Nat) (g h : Gt), i < j → gs[i]? = some g → gs[j]? = some h → g.d ≠ h.d

/-- .. among those whose first place is below k. -/
def ApartTo (gs : List Gt) (k : Nat) : Prop := ∀ (i j : Nat) (g h : Gt), i < k → i < j → gs[i]? = some g → gs[j]? = some h → g.d ≠ h.d
theorem apart_of {gs : List Gt} {k : Nat} (h : ApartTo gs k) (hk : gs.length ≤ k) : Apart gs := fun i j g x hij hi hj => h i j g x (by have := (List.getElem?_eq_some_iff.1 hi).1; omega) hij hi hj
/-- .. and place k against the places below m. -/
def ApartAt (gs : List Gt) (k m : Nat) : Prop := ∀ (j : Nat) (g h : Gt), k < j → j < m → gs[k]? = some g → gs[j]? = some h → g.d ≠ h.d
theorem apartAt_start (gs : List Gt) (k : Nat) : ApartAt gs k (k + 1) := fun j _ _ h1 h2 => by omega
theorem apartAt_succ {gs : List Gt} {k m : Nat} {g h : Gt} (ha : ApartAt gs k m) (hk : gs[k]? = some g) (hm : gs[m]? = some h) (hne : ¬ g.d = h.d) : ApartAt gs k (m + 1) := fun j g' h' h1 h2 hg' hh' => by
  by_cases e : j = m
  · subst e
    rw [hk] at hg'
    rw [hm] at hh'
    cases hg'
    cases hh'
    exact hne
  · exact ha j g' h' h1 (by omega) hg' hh'
theorem apartTo_succ {gs : List Gt} {k m : Nat} (h : ApartTo gs k) (ha : ApartAt gs k m) (hm : gs.length ≤ m) : ApartTo gs (k + 1) := fun i j g x hi hij hg hx => by
  by_cases e : i = k
  · subst e
    exact ha j g x hij (by have := (List.getElem?_eq_some_iff.1 hx).1; omega) hg hx
  · exact h i j g x (by omega) hij hg hx

theorem drewN_two (w : World) (a b : Nat) : (w.drewN a).drewN b = w.drewN (a + b) := by
  simp [World.drewN, Nat.add_assoc]

set_option maxHeartbeats 1000000 in
/-- distinctDomains: where it says yes, no domain stands twice. -/
theorem distinct_any (a : Option Addr) (c : Nat) (gs : List Gt) (w : World) (h0 : GView w a gs) (b0 : gs.length ≤ 4096) :
    Calls Try.prog 19 #[.slice a gs.length c] w fun e w' => RetB (Apart gs) e ∧ ∃ n, w' = w.drewN n := by
  go_enter Try.func19, Try.ntmps19
  go_wp2
  go_loopw [3] (fun i wr => ∃ k : Nat, k ≤ gs.length ∧ i = .int .i64 k ∧ ApartTo gs k ∧ ∃ n, wr = w.drewN n) (fun i _ => gs.length - (intOf i).toNat)
  case atStart => exact ⟨0, Nat.zero_le _, rfl, fun i j g x h => absurd h (Nat.not_lt_zero _), 0, rfl⟩
  case round =>
    obtain ⟨k, hk, rfl, hap, n, hn⟩ := hrel
    have HN : Hid (wr = w.drewN n) := hn
    clear hn
    by_cases hlt : k < gs.length
    · obtain ⟨g, hg⟩ : ∃ g, gs[k]? = some g := ⟨_, List.getElem?_eq_getElem hlt⟩
      obtain ⟨b, off, hix, hb, hc⟩ := h0.get hg 25 33 Try.underlying25 Try.cell33 c
      have HG : Hid (gs[k]? = some g) := hg
      have HP : Hid (ApartTo gs k) := hap
      have hcd := hc.d
      clear hg hap hc
      go_wp2
      obtain ⟨wo, hwo⟩ : ∃ wo : World, wo = wr := ⟨_, rfl⟩
      rw [← hwo] at HN ⊢
      clear hwo
      go_loopw [4] (fun i wi => ∃ m : Nat, k < m ∧ m ≤ gs.length ∧ i = .int .i64 m ∧ ApartAt gs k m ∧ ∃ n, wi = w.drewN n) (fun i _ => gs.length - (intOf i).toNat)
      case atStart => exact ⟨k + 1, by omega, by omega, by go_num, apartAt_start _ _, n, HN.out⟩
      case round =>
        obtain ⟨m, hkm, hm, rfl, hat, n', hn'⟩ := hrel
        by_cases hlm : m < gs.length
        · obtain ⟨x, hx⟩ : ∃ x, gs[m]? = some x := ⟨_, List.getElem?_eq_getElem hlm⟩
          obtain ⟨b2, off2, hix2, hb2, hc2⟩ := h0.get hx 25 33 Try.underlying25 Try.cell33 c
          have r1 : wr.cell? ⟨b, off + k * 3, none⟩ = some (.int .u32 g.d) := by rw [hn']; exact hcd
          have r2 : wr.cell? ⟨b2, off2 + m * 3, none⟩ = some (.int .u32 x.d) := by rw [hn']; exact hc2.d
          have HX : Hid (gs[m]? = some x) := hx
          have HT : Hid (ApartAt gs k m) := hat
          have HN' : Hid (wr = w.drewN n') := hn'
          clear hx hat hn' hc2 h0
          go_wp2
          go_quiet (fail)
          go_wp2
          · go_ret
            exact ⟨RetB.no _, _, by rw [HN'.out, drewN_two]⟩
          · exact ⟨⟨m + 1, by omega, by omega, by go_num, apartAt_succ HT.out HG.out HX.out (by simpa using (by assumption : (g.d == x.d) = false)), _, by rw [HN'.out, drewN_two]⟩, by simp [intOf]; omega⟩
        · have HT : Hid (ApartAt gs k m) := hat
          have HN' : Hid (wr = w.drewN n') := hn'
          clear hat hn' h0 hcd
          go_wp2
          exact ⟨⟨k + 1, by omega, by go_num, apartTo_succ HP.out HT.out (by omega), n', HN'.out⟩, by simp [intOf]; omega⟩
    · go_wp2
      go_ret
      exact ⟨RetB.yes _ (apart_of hap (by omega)), n, HN.out⟩

set_option maxHeartbeats 1000000 in
/-- sequence: of a domain that stands at place j and nowhere before it: that place's number. -/
theorem sequence_any (a : Option Addr) (c : Nat) (gs : List Gt) (w : World) (h0 : GView w a gs) (b0 : gs.length ≤ 4096) (j : Nat) (g : Gt) (hj : gs[j]? = some g) (hap : Apart gs) :
    Calls Try.prog 23 #[.slice a gs.length c, .int .u32 g.d] w fun e w' => e = .returned (.tuple #[.int .u64 g.q, .bool true]) ∧ Below w.heap.size w w' := by
  have hjl := (List.getElem?_eq_some_iff.1 hj).1
  go_enter Try.func23, Try.ntmps23
  go_wp2
  go_loopw [10] (fun i wr => ∃ k : Nat, k ≤ j ∧ i = .int .i64 k ∧ Below w.heap.size w wr) (fun i _ => gs.length - (intOf i).toNat)
  case atStart => exact ⟨0, Nat.zero_le _, rfl, Below.refl _ _⟩
  case round =>
    obtain ⟨k, hk, rfl, hbel⟩ := hrel
    obtain ⟨x, hx⟩ : ∃ x, gs[k]? = some x := ⟨_, List.getElem?_eq_getElem (by omega)⟩
    obtain ⟨b, off, hix, hb, hc⟩ := h0.get hx 25 33 Try.underlying25 Try.cell33 c
    have hcr := hc.below hbel hb
    have r1 := hcr.d
    have r2 := hcr.s
    have r3 := hcr.q
    have HB : Hid (Below w.heap.size w wr) := hbel
    have hkl : k < gs.length := by omega
    by_cases hkj : k = j
    · subst hkj
      rw [hj] at hx
      cases hx
      clear h0 hap hc hcr hbel hj
      go_wp2
      go_ret2
      exact ⟨rfl, HB.out.alloc (by exact HB.out.size) _⟩
    · have hne : (x.d == g.d) = false := by
        have := hap k j x g (by omega) hx hj
        simpa using this
      clear h0 hap hc hcr hbel hj hx
      go_wp2
      go_roundw
      case rel => exact ⟨k + 1, by omega, by go_num, HB.out.alloc (by exact HB.out.size) _⟩
      case measure => simp [intOf]; omega

set_option maxHeartbeats 1000000 in
/-- Beyond: of a position against itself, no domain standing twice: nil. -/
theorem beyond_self (a : Option Addr) (c : Nat) (gs : List Gt) (w : World) (h0 : GView w a gs) (b0 : gs.length ≤ 4096) (hap : Apart gs) (hf : ∀ g ∈ gs, g.fits) :
    Calls Try.prog 11 #[.slice a gs.length c, .slice a gs.length c] w fun e w' => e = .returned (.slice none 0 0) ∧ Below w.heap.size w w' := by
  go_enter Try.func11, Try.ntmps11
  go_wp2
  go_loopw [5, 13] (fun v i wr => ∃ k : Nat, k ≤ gs.length ∧ v = .slice none 0 0 ∧ i = .int .i64 k ∧ Below w.heap.size w wr) (fun _ i _ => gs.length - (intOf i).toNat)
  case atStart => exact ⟨0, Nat.zero_le _, rfl, rfl, Below.refl _ _⟩
  case round =>
    obtain ⟨k, hk, rfl, rfl, hbel⟩ := hrel
    by_cases hlt : k < gs.length
    · obtain ⟨g, hg⟩ : ∃ g, gs[k]? = some g := ⟨_, List.getElem?_eq_getElem hlt⟩
      obtain ⟨b, off, hix, hb, hc⟩ := h0.get hg 25 33 Try.underlying25 Try.cell33 c
      have hcr := hc.below hbel hb
      have r1 := hcr.d
      have r2 := hcr.s
      have r3 := hcr.q
      have HB : Hid (Below w.heap.size w wr) := hbel
      obtain ⟨_, _, hq0, hq1⟩ := hf g (List.mem_of_getElem? hg)
      have hB1 : Below w.heap.size w (wr.alloc (.cells #[.int .u32 g.d, .int .u32 g.s, .int .u64 g.q] 33)) := hbel.alloc (by exact hbel.size) _
      have HV : Hid (GView (wr.alloc (.cells #[.int .u32 g.d, .int .u32 g.s, .int .u64 g.q] 33)) a gs) := h0.below hB1
      have HB1 : Hid _ := hB1
      have HAP : Hid (Apart gs) := hap
      have HG : Hid (gs[k]? = some g) := hg
      clear h0 hc hcr hbel hg hB1 hap hf
      go_wp2_with fail
      refine (sequence_any a c gs _ HV.out b0 k g HG.out HAP.out).mono ?_
      rintro e x ⟨rfl, hbx⟩
      have c2 : x.cell? ⟨wr.heap.size, 2, none⟩ = some (.int .u64 g.q) := by
        rw [hbx.cell (by simp)]
        rw [cell_of_row _ _ _ _ _ _ (heap_alloc_new wr _)]; rfl
      have HX : Hid (Below w.heap.size w x) := HB1.out.trans (hbx.mono HB1.out.size)
      clear hbx r1 r2 r3
      go_wp2
      go_roundw
      case rel => exact ⟨k + 1, by omega, rfl, by go_num, HX.out⟩
      case measure => simp [intOf]; omega
    · go_wp2
      go_ret
      exact ⟨rfl, hbel⟩

/-- Count of nil. -/
theorem count_nil (w : World) : Calls Try.prog 17 #[.slice none 0 0] w fun e w' => e = .returned (.int .u64 0) ∧ w' = w := by
  go_enter Try.func17, Try.ntmps17
  go_wp2
  refine wp_loop_rounds 1 ?_
  rw [rounds_succ]
  go_wp2
  go_ret
  exact ⟨rfl, rfl⟩

set_option maxHeartbeats 1000000 in
/-- THE LAW's WALK. -/
theorem fn_any (a : Option Addr) (c : Nat) (gs : List Gt) (w : World) (h0 : GView w a gs) (b0 : gs.length ≤ 9223372036854775807) (hf : ∀ g ∈ gs, g.fits) :
    Calls Try.prog 7 #[.slice a gs.length c] w fun e w' => e = .returned (.bool true) ∧ Below w.heap.size w w' := by
  have heq : ∀ (w : World) (a : Option Addr) (n c n' c' : Nat), (binOp .eql 28 (.slice a n c) (.slice none n' c')).run Try.prog w = .ok (.bool a.isNone) w := fun w a n c n' c' => Lib.run_eql_slice_nil w _ _ a n c n' c' Try.underlying28
  go_enter Try.func7, Try.ntmps7
  go_wp2_with fail
  refine (bytes_any a gs.length c w b0).mono ?_
  rintro e w0 ⟨⟨b, rfl, _⟩, rfl⟩
  cases b with
  | false =>
    go_wp2
    go_ret
    exact ⟨rfl, Below.refl _ _⟩
  | true =>
    by_cases g0 : gs.length ≤ 4096
    · go_wp2_with fail
      refine (toPosition_any a c gs w0 h0 g0).mono ?_
      rintro e w1 ⟨a', c', rfl, v1, bel1⟩
      go_wp2_with fail
      refine (distinct_any a' c' gs w1 v1 g0).mono ?_
      rintro e w2 ⟨⟨b, rfl, hb⟩, n, hn⟩
      have bel2 : Below w0.heap.size w0 w2 := by rw [hn]; exact ⟨bel1.os, bel1.tape, bel1.output, bel1.size, bel1.block⟩
      have v2 : GView w2 a' gs := v1.below (by rw [hn]; exact ⟨rfl, rfl, rfl, Nat.le_refl _, fun _ _ => rfl⟩)
      clear v1 bel1 hn h0
      cases b with
      | false =>
        go_wp2
        go_ret
        exact ⟨rfl, bel2⟩
      | true =>
        have hap := hb rfl
        clear hb
        go_wp2_with fail
        refine (beyond_self a' c' gs w2 v2 g0 hap hf).mono ?_
        rintro e w3 ⟨rfl, bel3⟩
        clear hap hf v2
        go_wp2_with fail
        refine (count_nil w3).mono ?_
        rintro e w4 ⟨rfl, rfl⟩
        go_wp2
        go_ret
        exact ⟨rfl, bel2.trans (bel3.mono bel2.size)⟩
    · go_wp2
      go_ret
      exact ⟨rfl, Below.refl _ _⟩
end Go.Proofs.Qxb6601115a
