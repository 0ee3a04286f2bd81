import Derived.Test.Qxb6001364aRegC
namespace Go.Proofs.Qxb6001364a
open Go.ChangeShapes Go.WideShapes Go.ChangeAt Go.RowKit Go.Maps

theorem SlTo.form {τ : Tags} {L k : Nat} {v : Value} (h : SlTo τ L k v) : ∃ ad l c, v = .slice ad l c ∧ l ≤ L := by
  rcases h with rfl | ⟨b, l, c, rfl, _, _, h, _⟩
  · exact ⟨_, _, _, rfl, Nat.zero_le _⟩
  · exact ⟨_, _, _, rfl, h⟩

def Inv5 (C : PC) (w5 : World) (τ5 : Tags) (L0 : Nat) (wv : Value) (x : Nat) (z : Int) (bc : Nat) (c0 c7 c8 c9 c68 c69 c70 : Value) (a : Act) (w : World) : Prop :=
  ∃ (j : Nat) (τ : Tags), Fr a c0 (.pointer (some ⟨C.pb, 0, none⟩)) (.int .i64 (x : Int)) c7 c8 c9 (.int .i64 z) (.pointer (some ⟨bc, 0, none⟩)) c68 c69 c70 ∧ G a 24 = .func (.func 43) #[] #[.pointer (some ⟨bc, 0, none⟩)] ∧ G a 334 = wv ∧ G a 335 = .int .i64 (lenV wv : Nat) ∧ G a 336 = .int .i64 j ∧ j ≤ lenV wv ∧ Stp τ5 w5 τ w ∧ HT w τ (L0 + 2 * j) C.n ∧ K3 τ5 w5 w

set_option maxHeartbeats 8000000 in
set_option maxRecDepth 100000 in
theorem loop5 (C : PC) (w0 w5 : World) (τ5 : Tags) (L0 : Nat) (v4 v5 wv : Value) (bm4 cm4 bc x : Nat) (z lo hi : Int) (F4 : Int → Option Value) (c0 c7 c8 c9 c68 c69 c70 : Value)
    (hP : PSt C w0 w5 τ5 L0 v4 v5) (hwv : SlTo τ5 L0 1 wv) (hM4 : MIn w5 τ5 bm4 cm4 F4 lo hi) (hx : x < C.k)
    (hbc : w5.heap[bc]? = some (.cells #[.map (some bm4)] 50 (0, 0))) (nbc : τ5 bc = none) (hL : L0 + 2 * lenV wv < 1099511627776) (hn : C.n ≤ 65536)
    (a : Act) (hF : Fr a c0 (.pointer (some ⟨C.pb, 0, none⟩)) (.int .i64 (x : Int)) c7 c8 c9 (.int .i64 z) (.pointer (some ⟨bc, 0, none⟩)) c68 c69 c70) (g24 : G a 24 = .func (.func 43) #[] #[.pointer (some ⟨bc, 0, none⟩)]) (g334 : G a 334 = wv) (g335 : G a 335 = .int .i64 (lenV wv : Nat)) (g336 : G a 336 = .int .i64 0)
    (Q : Exit → Act → World → Prop)
    (hexit : ∀ a' w' τ', Fr a' c0 (.pointer (some ⟨C.pb, 0, none⟩)) (.int .i64 (x : Int)) c7 c8 c9 (.int .i64 z) (.pointer (some ⟨bc, 0, none⟩)) c68 c69 c70 → Stp τ5 w5 τ' w' → HT w' τ' (L0 + 2 * lenV wv) C.n → K3 τ5 w5 w' → Q (.exit 9) a' w') :
    Code.wp Try.prog (Code.loop (bodyOf Try.f38 4)) Q a w5 := by
  refine wp_loop (Inv5 C w5 τ5 L0 wv x z bc c0 c7 c8 c9 c68 c69 c70) (fun a _ => lenV wv - (intOf (G a 336)).toNat) ⟨0, τ5, hF, g24, g334, g335, g336, Nat.zero_le _, Stp.refl _ _, hP.ht, K3.refl _ _⟩ ?_
  clear hF g24 g334 g335 g336 a
  rintro a w ⟨j, τ, hF, g24, g334, g335, g336, hj, hst, hht, hk3⟩
  have HK3 : Hid (K3 τ5 w5 w) := ⟨hk3⟩
  clear hk3
  obtain ⟨u, rfl, hu⟩ := frame_any a hF.sz hF.df
  have e4 := (hu 4).trans hF.g4
  have e5 := (hu 5).trans hF.g5
  have e11 := (hu 11).trans hF.g11
  have e24 := (hu 24).trans g24
  have e334 := (hu 334).trans g334
  have e335 := (hu 335).trans g335
  have e336 := (hu 336).trans g336
  have HF : Hid (Fr _ c0 (.pointer (some ⟨C.pb, 0, none⟩)) (.int .i64 (x : Int)) c7 c8 c9 (.int .i64 z) (.pointer (some ⟨bc, 0, none⟩)) c68 c69 c70) := ⟨hF⟩
  clear hF hu g334 g335 g24
  rw [g336]
  clear g336
  conv => arg 2; whnf
  rw [e4, e5, e11, e24, e334, e335, e336]
  have HX : Hid (∀ a' w' τ', Fr a' c0 (.pointer (some ⟨C.pb, 0, none⟩)) (.int .i64 (x : Int)) c7 c8 c9 (.int .i64 z) (.pointer (some ⟨bc, 0, none⟩)) c68 c69 c70 → Stp τ5 w5 τ' w' → HT w' τ' (L0 + 2 * lenV wv) C.n → K3 τ5 w5 w' → Q (.exit 9) a' w') := ⟨hexit⟩
  clear hexit e4 e5 e11 e24 e334 e335 e336
  by_cases hlt : j < lenV wv
  case neg =>
    obtain rfl : j = lenV wv := by omega
    clear hlt hwv hM4 hbc nbc hP
    have HS : Hid (Stp τ5 w5 τ w) := ⟨hst⟩
    have HH : Hid (HT w τ (L0 + 2 * lenV wv) C.n) := ⟨hht⟩
    clear hst hht
    go_wp2
    exact HX.out _ _ τ ⟨rfl, rfl, HF.out.g0, rfl, rfl, HF.out.g7, HF.out.g8, HF.out.g9, rfl, HF.out.g16, HF.out.g68, HF.out.g69, HF.out.g70⟩ HS.out HH.out HK3.out
  case pos =>
    have hP' := hP.step hst hht (Nat.le_add_right _ _)
    obtain ⟨br, lr, cr, rfl, tbr, hlr, hjr⟩ := (hwv.mono hst.ext (Nat.le_refl _)).at_ hlt
    obtain ⟨y, hy, ⟨r, rfl, hr⟩, _⟩ := hht.cell tbr rfl (i := j) (by omega)
    have hix := run_ix 22 3 br lr cr j hjr Try.underlying22 Try.cell3
    have HM4 : Hid (MIn w5 τ5 bm4 cm4 F4 lo hi) := ⟨hM4⟩
    have HB : Hid (w5.heap[bc]? = some (.cells #[.map (some bm4)] 50 (0, 0)) ∧ τ5 bc = none) := ⟨hbc, nbc⟩
    have HP' : Hid (PSt C w0 w τ (L0 + 2 * j) v4 v5) := ⟨hP'⟩
    have HS : Hid (Stp τ5 w5 τ w) := ⟨hst⟩
    clear hP hP' hst hht hwv tbr hM4 hbc nbc
    simp only [lenV] at hj hlt hL
    have hl : lenV (.slice (some ⟨br, 0, none⟩) lr cr) = lr := rfl
    rw [hl]
    clear hl
    go_wp2
    refine reg63 C w0 w τ (L0 + 2 * j) v4 v5 HP'.out (by omega) hn bc bm4 cm4 F4 lo hi (HM4.out.step HS.out) ((HS.out.keep _ HB.out.2 (row_lt HB.out.1)).trans HB.out.1) (HS.out.new _ HB.out.2 (row_lt HB.out.1)) _ rfl rfl x r rfl rfl hr rfl _ ?_
    intro a' x2 τ2 hsz hdf hout hP2 hst2 hk2
    have HK2 : Hid (K3 τ5 w5 x2) := ⟨HK3.out.trans HS.out hk2⟩
    have HF2 : Hid (Fr a' c0 (.pointer (some ⟨C.pb, 0, none⟩)) (.int .i64 (x : Int)) c7 c8 c9 (.int .i64 z) (.pointer (some ⟨bc, 0, none⟩)) c68 c69 c70) := ⟨hsz, hdf, (hout 0 (by decide)).trans HF.out.g0, hout 4 (by decide), hout 5 (by decide), (hout 7 (by decide)).trans HF.out.g7, (hout 8 (by decide)).trans HF.out.g8, (hout 9 (by decide)).trans HF.out.g9, hout 11 (by decide), (hout 16 (by decide)).trans HF.out.g16, (hout 68 (by decide)).trans HF.out.g68, (hout 69 (by decide)).trans HF.out.g69, (hout 70 (by decide)).trans HF.out.g70⟩
    have f24 : G a' 24 = .func (.func 43) #[] #[.pointer (some ⟨bc, 0, none⟩)] := hout 24 (by decide)
    have f26 : G a' 26 = .int .i64 (r : Int) := hout 26 (by decide)
    have f334 : G a' 334 = .slice (some ⟨br, 0, none⟩) lr cr := hout 334 (by decide)
    have f335 : G a' 335 = .int .i64 (lr : Int) := hout 335 (by decide)
    have f336 : G a' 336 = .int .i64 (j : Int) := hout 336 (by decide)
    have HS2 : Hid (Stp τ5 w5 τ2 x2) := ⟨HS.out.trans hst2⟩
    have HP2 : Hid (PSt C w0 x2 τ2 (L0 + 2 * j + 1) v4 v5) := ⟨hP2⟩
    clear hsz hdf hout hP2 hst2 hk2 HK3 HS HP' HF hix hy
    obtain ⟨u', rfl, hu⟩ := frame_any a' HF2.out.sz HF2.out.df
    have e4 := (hu 4).trans HF2.out.g4
    have e5 := (hu 5).trans HF2.out.g5
    have e11 := (hu 11).trans HF2.out.g11
    have e24 := (hu 24).trans f24
    have e26 := (hu 26).trans f26
    have e334 := (hu 334).trans f334
    have e335 := (hu 335).trans f335
    have e336 := (hu 336).trans f336
    clear hu f24 f26 f334 f335 f336
    rw [e4, e5, e11, e24, e26, e334, e335, e336]
    clear e4 e5 e11 e24 e26 e334 e335 e336
    by_cases hz : (r : Int) = z
    · subst hz
      obtain ⟨row, hrow, okr, _⟩ := HP2.out.ht.cell HP2.out.t2 rfl (i := x) hx
      obtain ⟨ad, l, c, rfl, hl⟩ := SlTo.form okr
      have k2 : x2.cell? ⟨C.pb, 2, none⟩ = some (.slice (some ⟨C.b2, 0, none⟩) C.k C.k) := HP2.out.cell 2
      have k7 : x2.cell? ⟨C.pb, 7, none⟩ = some (.slice (some ⟨C.b7, 0, none⟩) C.n C.n) := HP2.out.cell 7
      have hix2 := run_ix 37 22 C.b2 C.k C.k x hx Try.underlying37 Try.cell22
      have hix7 := run_ix 23 4 C.b7 C.n C.n r hr Try.underlying23 Try.cell4
      obtain ⟨pv, hpv, ⟨pvb, rfl⟩, fpv⟩ := HP2.out.ht.cell HP2.out.t7 rfl (i := r) hr
      obtain ⟨s, hs⟩ := srcV_int HM4.out (r : Int)
      have hcl := src_any (r : Int) (by unfold Fits; omega) bc bm4 cm4 F4 x2 ((HS2.out.keep _ HB.out.2 (row_lt HB.out.1)).trans HB.out.1) (HM4.out.step HS2.out).map
      rw [hs] at hcl
      have HC : Hid (Calls Try.prog 43 #[.int .i64 (r : Int), .pointer (some ⟨bc, 0, none⟩)] x2 fun e w' => e = .returned (.int .i64 s) ∧ w' = x2) := ⟨hcl⟩
      clear hcl hs okr
      by_cases hl1 : 1 < l
      · by_cases hs0 : 0 ≤ s
        · go_wp2_with (go_at_call 43; refine HC.out.mono ?_; rintro e w' ⟨rfl, rfl⟩)
          refine ⟨⟨j + 1, τ2, ⟨rfl, rfl, HF2.out.g0, rfl, rfl, HF2.out.g7, HF2.out.g8, HF2.out.g9, rfl, HF2.out.g16, HF2.out.g68, HF2.out.g69, HF2.out.g70⟩, rfl, rfl, rfl, (by show Value.int .i64 ((j : Int) + 1) = _; simp), hlt, HS2.out.trans (Stp.put HP2.out.t7 _), HT.more ((HP2.out.ht.put HP2.out.t7 r ⟨true, rfl⟩)) (by omega), HK2.out.trans HS2.out (K3.put HP2.out.t7 (show (6 : Nat) ≠ 3 by decide) _)⟩, ?_⟩
          show lr - (intOf (Value.int .i64 ((j : Int) + 1))).toNat < lr - (intOf (Value.int .i64 (j : Int))).toNat
          simp [intOf]
          omega
        · go_wp2_with (go_at_call 43; refine HC.out.mono ?_; rintro e w' ⟨rfl, rfl⟩)
          refine ⟨⟨j + 1, τ2, ⟨rfl, rfl, HF2.out.g0, rfl, rfl, HF2.out.g7, HF2.out.g8, HF2.out.g9, rfl, HF2.out.g16, HF2.out.g68, HF2.out.g69, HF2.out.g70⟩, rfl, rfl, rfl, (by show Value.int .i64 ((j : Int) + 1) = _; simp), hlt, HS2.out, HT.more HP2.out.ht (by omega), HK2.out⟩, ?_⟩
          show lr - (intOf (Value.int .i64 ((j : Int) + 1))).toNat < lr - (intOf (Value.int .i64 (j : Int))).toNat
          simp [intOf]
          omega
      · go_wp2_with (go_at_call 43; refine HC.out.mono ?_; rintro e w' ⟨rfl, rfl⟩)
        refine ⟨⟨j + 1, τ2, ⟨rfl, rfl, HF2.out.g0, rfl, rfl, HF2.out.g7, HF2.out.g8, HF2.out.g9, rfl, HF2.out.g16, HF2.out.g68, HF2.out.g69, HF2.out.g70⟩, rfl, rfl, rfl, (by show Value.int .i64 ((j : Int) + 1) = _; simp), hlt, HS2.out, HT.more HP2.out.ht (by omega), HK2.out⟩, ?_⟩
        show lr - (intOf (Value.int .i64 ((j : Int) + 1))).toNat < lr - (intOf (Value.int .i64 (j : Int))).toNat
        simp [intOf]
        omega

    · have hz' : ((r : Int) != z) = true := by simpa using hz
      go_wp2
      refine reg65 C w0 x2 τ2 (L0 + 2 * j + 1) v4 v5 HP2.out (by omega) C.b6 C.n C.n (fun w τw Lw h => h.cell 6) HP2.out.t6 (Nat.le_refl _) _ rfl rfl r z rfl rfl hr _ ?_
      intro a' x3 τ3 hsz hdf hout hP3 hst3 hk4
      have HK4 : Hid (K3 τ5 w5 x3) := ⟨HK2.out.trans HS2.out hk4⟩
      have HF3 : Hid (Fr a' c0 (.pointer (some ⟨C.pb, 0, none⟩)) (.int .i64 (x : Int)) c7 c8 c9 (.int .i64 z) (.pointer (some ⟨bc, 0, none⟩)) c68 c69 c70) := ⟨hsz, hdf, (hout 0 (by decide)).trans HF2.out.g0, hout 4 (by decide), hout 5 (by decide), (hout 7 (by decide)).trans HF2.out.g7, (hout 8 (by decide)).trans HF2.out.g8, (hout 9 (by decide)).trans HF2.out.g9, hout 11 (by decide), (hout 16 (by decide)).trans HF2.out.g16, (hout 68 (by decide)).trans HF2.out.g68, (hout 69 (by decide)).trans HF2.out.g69, (hout 70 (by decide)).trans HF2.out.g70⟩
      have f24 : G a' 24 = .func (.func 43) #[] #[.pointer (some ⟨bc, 0, none⟩)] := hout 24 (by decide)
      have f26 : G a' 26 = .int .i64 (r : Int) := hout 26 (by decide)
      have f334 : G a' 334 = .slice (some ⟨br, 0, none⟩) lr cr := hout 334 (by decide)
      have f335 : G a' 335 = .int .i64 (lr : Int) := hout 335 (by decide)
      have f336 : G a' 336 = .int .i64 (j : Int) := hout 336 (by decide)
      have HS3 : Hid (Stp τ5 w5 τ3 x3) := ⟨HS2.out.trans hst3⟩
      have HP3 : Hid (PSt C w0 x3 τ3 (L0 + 2 * j + 1 + 1) v4 v5) := ⟨hP3⟩
      clear hsz hdf hout hP3 hst3 hk4 HK2 HS2 HP2 HF2
      obtain ⟨u'', rfl, hu⟩ := frame_any a' HF3.out.sz HF3.out.df
      have e4 := (hu 4).trans HF3.out.g4
      have e5 := (hu 5).trans HF3.out.g5
      have e11 := (hu 11).trans HF3.out.g11
      have e24 := (hu 24).trans f24
      have e26 := (hu 26).trans f26
      have e334 := (hu 334).trans f334
      have e335 := (hu 335).trans f335
      have e336 := (hu 336).trans f336
      clear hu f24 f26 f334 f335 f336
      rw [e4, e5, e11, e24, e26, e334, e335, e336]
      clear e4 e5 e11 e24 e26 e334 e335 e336
      obtain ⟨row, hrow, okr, _⟩ := HP3.out.ht.cell HP3.out.t2 rfl (i := x) hx
      obtain ⟨ad, l, c, rfl, hl⟩ := SlTo.form okr
      have k2 : x3.cell? ⟨C.pb, 2, none⟩ = some (.slice (some ⟨C.b2, 0, none⟩) C.k C.k) := HP3.out.cell 2
      have k7 : x3.cell? ⟨C.pb, 7, none⟩ = some (.slice (some ⟨C.b7, 0, none⟩) C.n C.n) := HP3.out.cell 7
      have hix2 := run_ix 37 22 C.b2 C.k C.k x hx Try.underlying37 Try.cell22
      have hix7 := run_ix 23 4 C.b7 C.n C.n r hr Try.underlying23 Try.cell4
      obtain ⟨pv, hpv, ⟨pvb, rfl⟩, fpv⟩ := HP3.out.ht.cell HP3.out.t7 rfl (i := r) hr
      obtain ⟨s, hs⟩ := srcV_int HM4.out (r : Int)
      have hcl := src_any (r : Int) (by unfold Fits; omega) bc bm4 cm4 F4 x3 ((HS3.out.keep _ HB.out.2 (row_lt HB.out.1)).trans HB.out.1) (HM4.out.step HS3.out).map
      rw [hs] at hcl
      have HC : Hid (Calls Try.prog 43 #[.int .i64 (r : Int), .pointer (some ⟨bc, 0, none⟩)] x3 fun e w' => e = .returned (.int .i64 s) ∧ w' = x3) := ⟨hcl⟩
      clear hcl hs okr
      by_cases hl1 : 1 < l
      · by_cases hs0 : 0 ≤ s
        · go_wp2_with (go_at_call 43; refine HC.out.mono ?_; rintro e w' ⟨rfl, rfl⟩)
          refine ⟨⟨j + 1, τ3, ⟨rfl, rfl, HF3.out.g0, rfl, rfl, HF3.out.g7, HF3.out.g8, HF3.out.g9, rfl, HF3.out.g16, HF3.out.g68, HF3.out.g69, HF3.out.g70⟩, rfl, rfl, rfl, (by show Value.int .i64 ((j : Int) + 1) = _; simp), hlt, HS3.out.trans (Stp.put HP3.out.t7 _), HT.more ((HP3.out.ht.put HP3.out.t7 r ⟨true, rfl⟩)) (by omega), HK4.out.trans HS3.out (K3.put HP3.out.t7 (show (6 : Nat) ≠ 3 by decide) _)⟩, ?_⟩
          show lr - (intOf (Value.int .i64 ((j : Int) + 1))).toNat < lr - (intOf (Value.int .i64 (j : Int))).toNat
          simp [intOf]
          omega
        · go_wp2_with (go_at_call 43; refine HC.out.mono ?_; rintro e w' ⟨rfl, rfl⟩)
          refine ⟨⟨j + 1, τ3, ⟨rfl, rfl, HF3.out.g0, rfl, rfl, HF3.out.g7, HF3.out.g8, HF3.out.g9, rfl, HF3.out.g16, HF3.out.g68, HF3.out.g69, HF3.out.g70⟩, rfl, rfl, rfl, (by show Value.int .i64 ((j : Int) + 1) = _; simp), hlt, HS3.out, HT.more HP3.out.ht (by omega), HK4.out⟩, ?_⟩
          show lr - (intOf (Value.int .i64 ((j : Int) + 1))).toNat < lr - (intOf (Value.int .i64 (j : Int))).toNat
          simp [intOf]
          omega
      · go_wp2_with (go_at_call 43; refine HC.out.mono ?_; rintro e w' ⟨rfl, rfl⟩)
        refine ⟨⟨j + 1, τ3, ⟨rfl, rfl, HF3.out.g0, rfl, rfl, HF3.out.g7, HF3.out.g8, HF3.out.g9, rfl, HF3.out.g16, HF3.out.g68, HF3.out.g69, HF3.out.g70⟩, rfl, rfl, rfl, (by show Value.int .i64 ((j : Int) + 1) = _; simp), hlt, HS3.out, HT.more HP3.out.ht (by omega), HK4.out⟩, ?_⟩
        show lr - (intOf (Value.int .i64 ((j : Int) + 1))).toNat < lr - (intOf (Value.int .i64 (j : Int))).toNat
        simp [intOf]
        omega

end Go.Proofs.Qxb6001364a
