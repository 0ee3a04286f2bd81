import Derived.Test.Qxb6001364aPd
import Derived.Deep.Cut
namespace Go.Proofs.Qxb6001364a
open Go.ChangeShapes Go.WideShapes Go.ChangeAt Go.RowKit Go.Maps

theorem ba_append_inj {p s t : ByteArray} (h : p ++ s = p ++ t) : s = t := by
  have h1 := congrArg (fun b : ByteArray => b.data.toList) h
  simp at h1
  cases s
  cases t
  simp at h1
  simpa using h1

theorem accs_getD (hs : Hist) (k x : Nat) : ((List.range k).map (accOf hs)).getD x [] = if x < k then accOf hs x else [] := by
  by_cases h : x < k
  · simp [h]
  · simp [h]

set_option maxHeartbeats 4000000 in
set_option maxRecDepth 100000 in
/-- problemB1 refuses where some item's accesses are bad. -/
theorem prob_any (w : World) (n k d1 d2 d3 : Nat) (a1 a2 a3 : Option Addr) (hs : Hist) (hH : HIn w a1 a2 a3 hs) (hm : hs.length ≤ 65536) (hn : n ≤ 65536) (hk : k ≤ 65536) (hit : ∀ e ∈ hs, e.2.2 < k) (hnode : ∀ e ∈ hs, e.1 < n) (hbad : ∃ x, x < k ∧ Bad (accOf hs x)) :
    Calls Try.prog 16 #[.int .i64 (n : Int), (.slice a1 hs.length d1), (.slice a2 hs.length d2), (.slice a3 hs.length d3), .int .i64 (k : Int)] w fun e w' => e = .returned (.tuple #[.pointer none, .bool false]) ∧ Below w.heap.size w w' := by
  obtain ⟨MN, hMN, _, hmkN⟩ := make_row 52 9 (.string ⟨#[]⟩) 16 Try.underlying52 Try.info9 rfl n (by omega) (by omega)
  obtain ⟨MI, hMI, _, hmkI⟩ := make_row 52 9 (.string ⟨#[]⟩) 16 Try.underlying52 Try.info9 rfl k (by omega) (by omega)
  obtain ⟨Z, hZ, hZ0, hmkZ⟩ := make_row 22 3 (.int .i64 0) 8 Try.underlying22 Try.info3 rfl k (by omega) (by omega)
  obtain ⟨Mn, hMn, _, hmkn⟩ := make_row 37 22 (.slice none 0 0) 24 Try.underlying37 Try.info22 rfl k (by omega) (by omega)
  obtain ⟨Mw, hMw, _, hmkw⟩ := make_row 54 23 (.slice none 0 0) 24 Try.underlying54 Try.info23 rfl k (by omega) (by omega)
  have HH : Hid (HIn w a1 a2 a3 hs) := ⟨hH⟩
  have HIT : Hid (∀ e ∈ hs, e.2.2 < k) := ⟨hit⟩
  have HND : Hid (∀ e ∈ hs, e.1 < n) := ⟨hnode⟩
  have HBD : Hid (∃ x, x < k ∧ Bad (accOf hs x)) := ⟨hbad⟩
  have HZ0 : Hid (∀ j, j < k → Z[j]? = some (.int .i64 0)) := ⟨hZ0⟩
  clear hH hit hnode hbad hZ0
  go_enter Try.func16, Try.ntmps16
  go_wp2
  obtain ⟨bN, hbN⟩ : ∃ bN, bN = w.heap.size := ⟨_, rfl⟩
  have hA0 : (w.alloc (.cells MN 9)).heap[bN]? = some (.cells MN 9 (0, 0)) := by
    rw [hbN]
    exact heap_alloc_new _ _
  have hB0 : Below w.heap.size w (w.alloc (.cells MN 9)) := (Below.refl _ w).alloc (Nat.le_refl _) _
  rw [← hbN]
  have HbN : Hid (bN = w.heap.size) := ⟨hbN⟩
  clear hbN
  refine loop16A w bN n (.slice a1 hs.length d1) (.slice a2 hs.length d2) (.slice a3 hs.length d3) (.int .i64 (k : Int)) undef undef undef undef hn (Nat.le_of_eq HbN.out.symm) _ _ ?_ _ ?_
  · exact ⟨0, MN, ⟨rfl, rfl, rfl, rfl, rfl, rfl, rfl, rfl, rfl, rfl, rfl, rfl⟩, rfl, Nat.zero_le _, hA0, hMN, hB0⟩
  · intro a' w1 A1 hF1 _ _ hb1
    have HF1 : Hid (Fr16 a' (.int .i64 (n : Int)) (.slice a1 hs.length d1) (.slice a2 hs.length d2) (.slice a3 hs.length d3) (.int .i64 (k : Int)) (.slice (some ⟨bN, 0, none⟩) n n) undef undef undef undef) := ⟨hF1⟩
    clear hF1 hA0 hB0 hmkN
    obtain ⟨u1, rfl, hu⟩ := frame131 a' HF1.out.sz HF1.out.df
    have e4 := (hu 4).trans HF1.out.g4
    clear hu
    rw [e4]
    clear e4
    go_wp2
    obtain ⟨bI, hbI⟩ : ∃ bI, bI = w1.heap.size := ⟨_, rfl⟩
    have hwI : w.heap.size ≤ bI := by rw [hbI]; exact hb1.size
    have s1 := size_alloc_ w1 (.cells MI 9)
    have kI1 : ((w1.alloc (.cells MI 9)).alloc (.cells Z 3)).heap[bI]? = some (.cells MI 9 (0, 0)) := by
      rw [hbI]
      exact (Below.heap_alloc _ _ _ (by omega)).trans (heap_alloc_new _ _)
    have kC1 : ((w1.alloc (.cells MI 9)).alloc (.cells Z 3)).heap[bI + 1]? = some (.cells Z 3 (0, 0)) := by
      rw [hbI, ← s1]
      exact heap_alloc_new _ _
    have hb1' : Below w.heap.size w ((w1.alloc (.cells MI 9)).alloc (.cells Z 3)) := (hb1.alloc hb1.size _).alloc (by rw [s1]; have := hb1.size; omega) _
    rw [← hbI]
    clear hbI hb1 s1
    refine loop16B w bI k (bI + 1) (.cells Z 3 (0, 0)) (.int .i64 (n : Int)) (.slice a1 hs.length d1) (.slice a2 hs.length d2) (.slice a3 hs.length d3) (.slice (some ⟨bN, 0, none⟩) n n) (.slice (some ⟨bI + 1, 0, none⟩) k k) undef undef hk hwI (by omega) _ _ ?_ _ ?_
    · exact ⟨0, MI, ⟨rfl, rfl, HF1.out.g0, HF1.out.g1, HF1.out.g2, HF1.out.g3, rfl, HF1.out.g12, rfl, rfl, HF1.out.g19, HF1.out.g20⟩, rfl, Nat.zero_le _, kI1, hMI, hb1', (fun _ h => absurd h (Nat.not_lt_zero _)), kC1⟩
    · intro a2' w2 AI hF2 hAI hAIs hb2 hdec hC2
      have HF2 : Hid (Fr16 a2' (.int .i64 (n : Int)) (.slice a1 hs.length d1) (.slice a2 hs.length d2) (.slice a3 hs.length d3) (.int .i64 (k : Int)) (.slice (some ⟨bN, 0, none⟩) n n) (.slice (some ⟨bI, 0, none⟩) k k) (.slice (some ⟨bI + 1, 0, none⟩) k k) undef undef) := ⟨hF2⟩
      have HDEC : Hid (∀ y, y < k → ∃ s : ByteArray, AI[y]? = some (.string (⟨#[120]⟩ ++ s)) ∧ IsDec s y) := ⟨hdec⟩
      clear hF2 kI1 kC1 hb1' hmkI hmkZ hdec HF1 hAIs
      obtain ⟨u2, rfl, hu⟩ := frame131 a2' HF2.out.sz HF2.out.df
      have e3 := (hu 3).trans HF2.out.g3
      clear hu
      rw [e3]
      clear e3
      go_wp2
      refine loop16C w w2 (bI + 1) k d3 a1 a2 a3 hs (.int .i64 (n : Int)) (.slice a1 hs.length d1) (.slice a2 hs.length d2) (.slice (some ⟨bN, 0, none⟩) n n) (.slice (some ⟨bI, 0, none⟩) k k) undef undef HH.out hb2 (by omega) hm HIT.out _ ?_ _ ?_
      · refine ⟨0, Z, ⟨rfl, rfl, HF2.out.g0, HF2.out.g1, HF2.out.g2, rfl, HF2.out.g4, HF2.out.g12, HF2.out.g14, HF2.out.g15, HF2.out.g19, HF2.out.g20⟩, rfl, rfl, rfl, Nat.zero_le _, hC2, hZ, fun y hy => ?_, Sb.refl _ _⟩
        rw [HZ0.out y hy]
        simp [accOf]
      · intro a3' w3 Ac hF3 hAc hAcs hcnt hsb3
        have HF3 : Hid (Fr16 a3' (.int .i64 (n : Int)) (.slice a1 hs.length d1) (.slice a2 hs.length d2) (.slice a3 hs.length d3) (.int .i64 (k : Int)) (.slice (some ⟨bN, 0, none⟩) n n) (.slice (some ⟨bI, 0, none⟩) k k) (.slice (some ⟨bI + 1, 0, none⟩) k k) undef undef) := ⟨hF3⟩
        have HCNT : Hid (Counted Ac hs k hs.length) := ⟨hcnt⟩
        have hAI3 : w3.heap[bI]? = some (.cells AI 9 (0, 0)) := (hsb3.other _ (by omega)).trans hAI
        have hb3 : Below w.heap.size w w3 := hsb3.below hb2 (by omega)
        clear hF3 hcnt hsb3 hb2 hAI hC2 HF2
        obtain ⟨u3, rfl, hu⟩ := frame131 a3' HF3.out.sz HF3.out.df
        have e4 := (hu 4).trans HF3.out.g4
        clear hu
        rw [e4]
        clear e4
        go_wp2
        obtain ⟨bn, hbn⟩ : ∃ bn, bn = w3.heap.size := ⟨_, rfl⟩
        have hlt1 : bI + 1 < bn := by rw [hbn]; exact row_lt hAc
        have s3 := size_alloc_ w3 (.cells Mn 22)
        have kn : ((w3.alloc (.cells Mn 22)).alloc (.cells Mw 23)).heap[bn]? = some (.cells Mn 22 (0, 0)) := by
          rw [hbn]
          exact (Below.heap_alloc _ _ _ (by omega)).trans (heap_alloc_new _ _)
        have kw : ((w3.alloc (.cells Mn 22)).alloc (.cells Mw 23)).heap[bn + 1]? = some (.cells Mw 23 (0, 0)) := by
          rw [hbn, ← s3]
          exact heap_alloc_new _ _
        have kc : ((w3.alloc (.cells Mn 22)).alloc (.cells Mw 23)).heap[bI + 1]? = some (.cells Ac 3 (0, 0)) := (Below.heap_alloc _ _ _ (by omega)).trans ((Below.heap_alloc _ _ _ (by omega)).trans hAc)
        have ki : ((w3.alloc (.cells Mn 22)).alloc (.cells Mw 23)).heap[bI]? = some (.cells AI 9 (0, 0)) := (Below.heap_alloc _ _ _ (by omega)).trans ((Below.heap_alloc _ _ _ (by omega)).trans hAI3)
        have hbD : Below w.heap.size w ((w3.alloc (.cells Mn 22)).alloc (.cells Mw 23)) := (hb3.alloc hb3.size _).alloc (by rw [s3]; have := hb3.size; omega) _
        have sD : ((w3.alloc (.cells Mn 22)).alloc (.cells Mw 23)).heap.size = bn + 2 := by
          rw [size_alloc_, s3, hbn]
        rw [← hbn]
        obtain ⟨wD, hwD⟩ : ∃ wD : World, wD = (w3.alloc (.cells Mn 22)).alloc (.cells Mw 23) := ⟨_, rfl⟩
        rw [← hwD] at kn kw kc ki hbD sD ⊢
        have SD : Hid (wD.heap.size = bn + 2) := ⟨sD⟩
        clear hwD hbn s3 sD hAc hAI3 hb3
        refine loop16D wD (bI + 1) bn (bn + 1) (bn + 2) k hs (.int .i64 (n : Int)) (.slice a1 hs.length d1) (.slice a2 hs.length d2) (.slice a3 hs.length d3) (.slice (some ⟨bN, 0, none⟩) n n) (.slice (some ⟨bI, 0, none⟩) k k) hm hk (by omega) (by omega) (by omega) (by omega) (by omega) (by omega) Ac kc HCNT.out _ _ ?_ _ ?_
        · exact ⟨0, ⟨rfl, rfl, HF3.out.g0, HF3.out.g1, HF3.out.g2, HF3.out.g3, rfl, HF3.out.g12, HF3.out.g14, HF3.out.g15, rfl, rfl⟩, rfl, Nat.zero_le _, ⟨⟨Mn, kn, hMn, fun _ h => absurd h (Nat.not_lt_zero _)⟩, ⟨Mw, kw, hMw, fun _ h => absurd h (Nat.not_lt_zero _)⟩, (fun _ h => absurd h (Nat.not_lt_zero _)), (fun _ h => absurd h (Nat.not_lt_zero _)), fun _ _ _ _ => rfl, Nat.le_of_eq SD.out.symm, rfl, rfl, rfl⟩, SD.out⟩
        · intro a4' w4 hF4 hR4
          have HF4 : Hid (Fr16 a4' (.int .i64 (n : Int)) (.slice a1 hs.length d1) (.slice a2 hs.length d2) (.slice a3 hs.length d3) (.int .i64 (k : Int)) (.slice (some ⟨bN, 0, none⟩) n n) (.slice (some ⟨bI, 0, none⟩) k k) (.slice (some ⟨bI + 1, 0, none⟩) k k) (.slice (some ⟨bn, 0, none⟩) k k) (.slice (some ⟨bn + 1, 0, none⟩) k k)) := ⟨hF4⟩
          have HR4 : Hid (RowsAt wD w4 bn (bn + 1) (bn + 2) k (fun y => (accOf hs y).length) (fun _ => []) (fun _ => []) k) := ⟨hR4⟩
          clear hF4 hR4 HF3 kn kw kc hmkn hmkw
          obtain ⟨u4, rfl, hu⟩ := frame131 a4' HF4.out.sz HF4.out.df
          have e3 := (hu 3).trans HF4.out.g3
          clear hu
          rw [e3]
          clear e3
          go_wp2
          refine loop16E w wD bn (bn + 1) (bn + 2) k d1 d2 d3 a1 a2 a3 hs (.int .i64 (n : Int)) (.slice (some ⟨bN, 0, none⟩) n n) (.slice (some ⟨bI, 0, none⟩) k k) (.slice (some ⟨bI + 1, 0, none⟩) k k) HH.out hbD hm (by omega) (by omega) (by omega) (by omega) (by omega) (Nat.le_of_eq SD.out) HIT.out _ _ ?_ _ ?_
          · exact ⟨0, ⟨rfl, rfl, HF4.out.g0, HF4.out.g1, HF4.out.g2, rfl, HF4.out.g4, HF4.out.g12, HF4.out.g14, HF4.out.g15, HF4.out.g19, HF4.out.g20⟩, rfl, rfl, rfl, Nat.zero_le _, HR4.out⟩
          · intro a5' w5 hF5 hR5
            have hki5 : w5.heap[bI]? = some (.cells AI 9 (0, 0)) := (hR5.kept bI (by omega) (by omega) (by omega)).trans ki
            have hb5 : Below w.heap.size w w5 := hR5.below hbD (by omega) (by omega) (by omega) (Nat.le_of_eq SD.out)
            have hex : ∀ y : Nat, ∃ s : ByteArray, y < k → AI[y]? = some (.string (⟨#[120]⟩ ++ s)) ∧ IsDec s y := fun y => by
              by_cases h : y < k
              · obtain ⟨s, h1⟩ := HDEC.out y h
                exact ⟨s, fun _ => h1⟩
              · exact ⟨⟨#[]⟩, fun h' => absurd h' h⟩
            obtain ⟨itm, hitm⟩ : ∃ itm : Nat → ByteArray, ∀ y, y < k → AI[y]? = some (.string (⟨#[120]⟩ ++ itm y)) ∧ IsDec (itm y) y := ⟨fun y => Classical.choose (hex y), fun y => Classical.choose_spec (hex y)⟩
            clear hex
            have hzz := zz_any w5 n k (some ⟨bN, 0, none⟩) n bI k bn k (bn + 1) k (fun y => ⟨#[120]⟩ ++ itm y) ((List.range k).map (accOf hs)) hn hk
              (fun x hx => (cell_of_row w5 bI x _ _ _ hki5).trans (hitm x hx).1)
              (fun x hx => by
                have := isDec_size (hitm x hx).2
                rw [ByteArray.size_append]
                have h1 : (⟨#[120]⟩ : ByteArray).size = 1 := rfl
                unfold maxLen
                omega)
              (fun x y hx hy e => isDec_inj (hitm x hx).2 (by rw [ba_append_inj e]; exact (hitm y hy).2))
              (fun x hx => by
                rw [accs_getD, if_pos hx]
                exact hR5.in32 hx)
              (fun x => by
                rw [accs_getD]
                have := accOf_len hs x
                split
                · omega
                · exact Nat.zero_le _)
              (fun x y hy => by
                rw [accs_getD] at hy
                split at hy
                · obtain ⟨z, hz, hz1⟩ := accOf_mem hy
                  rw [← hz1]
                  exact HND.out z hz
                · cases hy)
              (by
                obtain ⟨x, hx, hb⟩ := HBD.out
                refine ⟨x, hx, ?_⟩
                rw [accs_getD, if_pos hx]
                exact hb)
            have HF5 : Hid (Fr16 a5' (.int .i64 (n : Int)) (.slice a1 hs.length d1) (.slice a2 hs.length d2) (.slice a3 hs.length d3) (.int .i64 (k : Int)) (.slice (some ⟨bN, 0, none⟩) n n) (.slice (some ⟨bI, 0, none⟩) k k) (.slice (some ⟨bI + 1, 0, none⟩) k k) (.slice (some ⟨bn, 0, none⟩) k k) (.slice (some ⟨bn + 1, 0, none⟩) k k)) := ⟨hF5⟩
            have HB5 : Hid (Below w.heap.size w w5) := ⟨hb5⟩
            clear hF5 hR5 hki5 hb5 hitm HF4 HR4
            obtain ⟨u5, rfl, hu⟩ := frame131 a5' HF5.out.sz HF5.out.df
            have e12 := (hu 12).trans HF5.out.g12
            have e14 := (hu 14).trans HF5.out.g14
            have e19 := (hu 19).trans HF5.out.g19
            have e20 := (hu 20).trans HF5.out.g20
            clear hu
            rw [e12, e14, e19, e20]
            clear e12 e14 e19 e20
            go_wp2_with (go_at_call 32; refine hzz.mono ?_; rintro e w6 ⟨rfl, hb6⟩)
            go_ret2
            exact ⟨rfl, HB5.out.trans (hb6.mono HB5.out.size)⟩

end Go.Proofs.Qxb6001364a
