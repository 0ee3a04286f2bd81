import Derived.Test.Qxb6001364aRegA
namespace Go.Proofs.Qxb6001364a
open Go.ChangeShapes Go.WideShapes Go.ChangeAt Go.RowKit Go.Maps

/-- A map of no kind, int to int, its values between lo and hi. -/
structure MIn (w : World) (τ : Tags) (bm cm : Nat) (F : Int → Option Value) (lo hi : Int) : Prop where
  map : MapG kI 3 w bm cm F
  no : τ bm = none
  val : ∀ x v, F x = some v → ∃ z : Int, v = .int .i64 z ∧ lo ≤ z ∧ z < hi

theorem MIn.step {w w' : World} {τ τ' : Tags} {bm cm : Nat} {F : Int → Option Value} {lo hi : Int} (h : MIn w τ bm cm F lo hi) (hs : Stp τ w τ' w') : MIn w' τ' bm cm F lo hi :=
  ⟨h.map.same (hs.keep _ h.no h.map.lt), hs.new _ h.no h.map.lt, h.val⟩
theorem MIn.get {w : World} {τ : Tags} {bm cm : Nat} {F : Int → Option Value} {lo hi : Int} (h : MIn w τ bm cm F lo hi) (h0 : lo ≤ 0 ∧ 0 < hi) (x : Int) : ∃ z : Int, (F x).getD (.int .i64 0) = .int .i64 z ∧ lo ≤ z ∧ z < hi := by
  cases hf : F x with
  | none => exact ⟨0, rfl, h0⟩
  | some v =>
    obtain ⟨z, rfl, hz⟩ := h.val x v hf
    exact ⟨z, rfl, hz⟩

def Inv4 (C : PC) (w4 : World) (τ4 : Tags) (L0 : Nat) (rv : Value) (bm1 bc : Nat) (c0 c5 c8 c9 c11 c68 c69 c70 : Value) (a : Act) (w : World) : Prop :=
  ∃ (j : Nat) (τ : Tags), Fr a c0 (.pointer (some ⟨C.pb, 0, none⟩)) c5 (.map (some bm1)) c8 c9 c11 (.pointer (some ⟨bc, 0, none⟩)) c68 c69 c70 ∧ G a 278 = rv ∧ G a 279 = .int .i64 (lenV rv : Nat) ∧ G a 280 = .int .i64 j ∧ j ≤ lenV rv ∧ Stp τ4 w4 τ w ∧ HT w τ (L0 + j) C.n ∧ K3 τ4 w4 w

set_option maxHeartbeats 4000000 in
set_option maxRecDepth 100000 in
theorem loop4 (C : PC) (w0 w4 : World) (τ4 : Tags) (L0 : Nat) (v4 v5 rv : Value) (bm1 cm1 bm4 cm4 bc : Nat) (F1 F4 : Int → Option Value) (c0 c5 c8 c9 c11 c68 c69 c70 : Value)
    (hP : PSt C w0 w4 τ4 L0 v4 v5) (hrv : SlTo τ4 L0 1 rv) (hM1 : MIn w4 τ4 bm1 cm1 F1 (-1) C.n) (hM4 : MIn w4 τ4 bm4 cm4 F4 0 (lenV v5)) (hN : 0 < lenV rv → 0 < lenV v5)
    (hbc : w4.heap[bc]? = some (.cells #[.map (some bm4)] 50 (0, 0))) (nbc : τ4 bc = none) (hL : L0 + lenV rv < 1099511627776) (hn : C.n ≤ 65536)
    (a : Act) (hF : Fr a c0 (.pointer (some ⟨C.pb, 0, none⟩)) c5 (.map (some bm1)) c8 c9 c11 (.pointer (some ⟨bc, 0, none⟩)) c68 c69 c70) (g278 : G a 278 = rv) (g279 : G a 279 = .int .i64 (lenV rv : Nat)) (g280 : G a 280 = .int .i64 0)
    (Q : Exit → Act → World → Prop)
    (hexit : ∀ a' w' τ', Fr a' c0 (.pointer (some ⟨C.pb, 0, none⟩)) c5 (.map (some bm1)) c8 c9 c11 (.pointer (some ⟨bc, 0, none⟩)) c68 c69 c70 → Stp τ4 w4 τ' w' → HT w' τ' (L0 + lenV rv) C.n → K3 τ4 w4 w' → Q (.exit 7) a' w') :
    Code.wp Try.prog (Code.loop (bodyOf Try.f38 3)) Q a w4 := by
  refine wp_loop (Inv4 C w4 τ4 L0 rv bm1 bc c0 c5 c8 c9 c11 c68 c69 c70) (fun a _ => lenV rv - (intOf (G a 280)).toNat) ⟨0, τ4, hF, g278, g279, g280, Nat.zero_le _, Stp.refl _ _, hP.ht, K3.refl _ _⟩ ?_
  clear hF g278 g279 g280 a
  rintro a w ⟨j, τ, hF, g278, g279, g280, hj, hst, hht, hk3⟩
  have HK3 : Hid (K3 τ4 w4 w) := ⟨hk3⟩
  clear hk3
  obtain ⟨u, rfl, hu⟩ := frame_any a hF.sz hF.df
  have e4 := (hu 4).trans hF.g4
  have e7 := (hu 7).trans hF.g7
  have e16 := (hu 16).trans hF.g16
  have e278 := (hu 278).trans g278
  have e279 := (hu 279).trans g279
  have e280 := (hu 280).trans g280
  have HF : Hid (Fr _ c0 (.pointer (some ⟨C.pb, 0, none⟩)) c5 (.map (some bm1)) c8 c9 c11 (.pointer (some ⟨bc, 0, none⟩)) c68 c69 c70) := ⟨hF⟩
  clear hF hu g278 g279
  rw [g280]
  clear g280
  conv => arg 2; whnf
  rw [e4, e7, e16, e278, e279, e280]
  have HX : Hid (∀ a' w' τ', Fr a' c0 (.pointer (some ⟨C.pb, 0, none⟩)) c5 (.map (some bm1)) c8 c9 c11 (.pointer (some ⟨bc, 0, none⟩)) c68 c69 c70 → Stp τ4 w4 τ' w' → HT w' τ' (L0 + lenV rv) C.n → K3 τ4 w4 w' → Q (.exit 7) a' w') := ⟨hexit⟩
  clear hexit e4 e7 e16 e278 e279 e280
  by_cases hlt : j < lenV rv
  case neg =>
    obtain rfl : j = lenV rv := by omega
    clear hlt hrv hM1 hM4 hN hbc nbc hP
    have HS : Hid (Stp τ4 w4 τ w) := ⟨hst⟩
    have HH : Hid (HT w τ (L0 + lenV rv) C.n) := ⟨hht⟩
    clear hst hht
    go_wp2
    exact HX.out _ _ τ ⟨rfl, rfl, HF.out.g0, rfl, HF.out.g5, rfl, HF.out.g8, HF.out.g9, HF.out.g11, rfl, HF.out.g68, HF.out.g69, HF.out.g70⟩ HS.out HH.out HK3.out
  case pos =>
    have hP' := hP.step hst hht (Nat.le_add_right _ _)
    obtain ⟨br, lr, cr, rfl, tbr, hlr, hjr⟩ := (hrv.mono hst.ext (Nat.le_refl _)).at_ hlt
    obtain ⟨x, hx, ⟨r, rfl, hr⟩, _⟩ := hht.cell tbr rfl (i := j) (by omega)
    have hix := run_ix 22 3 br lr cr j hjr Try.underlying22 Try.cell3
    obtain ⟨f, hf, hf1, hf2⟩ := (hM1.step hst).get ⟨by omega, by omega⟩ (r : Int)
    have hlook1 : ∀ q, (Instr.lookup 50 (.map (some bm1)) (.int .i64 (r : Int)) false).run Try.prog (w.drewN q) = .ok (.int .i64 f) (w.drewN q) := fun q => by
      rw [← hf]
      exact (MapG.look (w := w.drewN q) 50 3 (.int .i64 0) ((hM1.step hst).map.same rfl) law3 Try.underlying50 zero3 rfl (kI_key (x := (r : Int)) (by unfold Fits; omega))).2
    obtain ⟨d', hd, hd1, hd2⟩ := (hM4.step hst).get ⟨by omega, by have := hN (by omega); omega⟩ f
    obtain ⟨d, rfl⟩ := Int.eq_ofNat_of_zero_le hd1
    have hlook2 : ∀ q, (Instr.lookup 50 (.map (some bm4)) (.int .i64 f) false).run Try.prog (w.drewN q) = .ok (.int .i64 (d : Int)) (w.drewN q) := fun q => by
      rw [← hd]
      exact (MapG.look (w := w.drewN q) 50 3 (.int .i64 0) ((hM4.step hst).map.same rfl) law3 Try.underlying50 zero3 rfl (kI_key (x := f) (by unfold Fits; omega))).2
    obtain ⟨b5, l5, c5', rfl, tb5, hl5, hd5⟩ := hP'.s5.at_ (i := d) (by omega)
    obtain ⟨y, hy, ⟨z, rfl⟩, _⟩ := hht.cell tb5 rfl (i := d) (by omega)
    have hix5 := run_ix 22 3 b5 l5 c5' d hd5 Try.underlying22 Try.cell3
    have k5 : w.cell? ⟨C.pb, 5, none⟩ = some (.slice (some ⟨b5, 0, none⟩) l5 c5') := hP'.cell 5
    have k6 : w.cell? ⟨C.pb, 6, none⟩ = some (.slice (some ⟨C.b6, 0, none⟩) C.n C.n) := hP'.cell 6
    have kc : w.cell? ⟨bc, 0, none⟩ = some (.map (some bm4)) := by
      rw [cell_of_row w bc 0 _ _ _ ((hst.keep _ nbc (row_lt hbc)).trans hbc)]
      rfl
    obtain ⟨row, hrow, okr, frow⟩ := hht.cell hP'.t6 rfl (i := r) hr
    have hix6 := run_ix 37 22 C.b6 C.n C.n r hr Try.underlying37 Try.cell22
    have HP : Hid (PSt C w0 w4 τ4 L0 v4 (.slice (some ⟨b5, 0, none⟩) l5 c5')) := ⟨hP⟩
    have HP' : Hid (PSt C w0 w τ (L0 + j) v4 (.slice (some ⟨b5, 0, none⟩) l5 c5')) := ⟨hP'⟩
    have HS : Hid (Stp τ4 w4 τ w) := ⟨hst⟩
    have HH : Hid (HT w τ (L0 + j) C.n) := ⟨hht⟩
    have HR : Hid (SlTo τ (L0 + j) 0 row) := ⟨okr⟩
    have lpb : C.pb < w.heap.size := hP'.lt
    have lb6 : C.b6 < w.heap.size := hht.lt hP'.t6
    clear hP hP' hst hht okr hM1 hM4 hN hrv hbc nbc hf hf1 hf2 hd hd1 hd2 tb5 tbr
    simp only [lenV] at hj hlt hL
    have hl : lenV (.slice (some ⟨br, 0, none⟩) lr cr) = lr := rfl
    rw [hl]
    clear hl
    by_cases hz : 0 ≤ z ∧ z ≠ (r : Int)
    · obtain ⟨hz0, hz1⟩ := hz
      go_wp2
      go_quiet (fail)
      go_wp2_with (first | (at_lookup; go_must (refine wpList_look_run _ rfl 50 _ _ false rfl _ _ _ rfl rfl (hlook1 _) ?_)) | (at_lookup; go_must (refine wpList_look_run _ rfl 50 _ _ false rfl _ _ _ rfl rfl (hlook2 _) ?_)))
      obtain ⟨x1, hx1⟩ : ∃ x1 : World, x1 = w.drewN nq := ⟨_, rfl⟩
      rw [← hx1]
      have HS1 : Hid (Stp τ4 w4 τ x1) := ⟨by rw [hx1]; exact HS.out.trans ⟨fun _ _ h => h, fun _ h _ => h, rfl, rfl, rfl, Nat.le_refl _, fun _ _ _ => rfl⟩⟩
      have HP1 : Hid (PSt C w0 x1 τ (L0 + j) v4 (.slice (some ⟨b5, 0, none⟩) l5 c5')) := ⟨by rw [hx1]; exact HP'.out.step ⟨fun _ _ h => h, fun _ h _ => h, rfl, rfl, rfl, Nat.le_refl _, fun _ _ _ => rfl⟩ (HH.out.same (fun _ _ _ => rfl)) (Nat.le_refl _)⟩
      have HK1 : Hid (K3 τ4 w4 x1) := ⟨by rw [hx1]; exact HK3.out⟩
      clear hlook1 hlook2 hix hix5 hx hy k5 kc hx1 HK3 hrow k6 lpb lb6 frow HS HP HP' HH hix6
      refine reg56 C w0 x1 τ (L0 + j) v4 _ HP1.out (by omega) C.b6 C.n C.n (fun w τw Lw h => h.cell 6) HP1.out.t6 (Nat.le_refl _) _ rfl rfl r z rfl rfl hr _ ?_
      intro a' x2 τ' hsz hdf hout hP2 hst2 hk2
      have HK2 : Hid (K3 τ4 w4 x2) := ⟨HK1.out.trans HS1.out hk2⟩
      have HF2 : Hid (Fr a' c0 (.pointer (some ⟨C.pb, 0, none⟩)) c5 (.map (some bm1)) c8 c9 c11 (.pointer (some ⟨bc, 0, none⟩)) c68 c69 c70) := ⟨hsz, hdf, (hout 0 (by decide)).trans HF.out.g0, hout 4 (by decide), (hout 5 (by decide)).trans HF.out.g5, hout 7 (by decide), (hout 8 (by decide)).trans HF.out.g8, (hout 9 (by decide)).trans HF.out.g9, (hout 11 (by decide)).trans HF.out.g11, hout 16 (by decide), (hout 68 (by decide)).trans HF.out.g68, (hout 69 (by decide)).trans HF.out.g69, (hout 70 (by decide)).trans HF.out.g70⟩
      have f278 : G a' 278 = .slice (some ⟨br, 0, none⟩) lr cr := hout 278 (by decide)
      have f279 : G a' 279 = .int .i64 (lr : Int) := hout 279 (by decide)
      have f280 : G a' 280 = .int .i64 (j : Int) := hout 280 (by decide)
      have HS2 : Hid (Stp τ4 w4 τ' x2) := ⟨HS1.out.trans hst2⟩
      have HH2 : Hid (HT x2 τ' (L0 + j + 1) C.n) := ⟨hP2.ht⟩
      clear hsz hdf hout hP2 hst2 hk2 HK1 HS1 HP1 HF
      obtain ⟨u', rfl, hu⟩ := frame_any a' HF2.out.sz HF2.out.df
      have e280 := (hu 280).trans f280
      clear hu
      rw [e280]
      go_wp2
      refine ⟨⟨j + 1, τ', ⟨rfl, rfl, HF2.out.g0, HF2.out.g4, HF2.out.g5, HF2.out.g7, HF2.out.g8, HF2.out.g9, HF2.out.g11, HF2.out.g16, HF2.out.g68, HF2.out.g69, HF2.out.g70⟩, f278, f279, (by show Value.int .i64 ((j : Int) + 1) = _; simp), hlt, HS2.out, HH2.out, HK2.out⟩, ?_⟩
      show lr - (intOf (Value.int .i64 ((j : Int) + 1))).toNat < lr - (intOf (Value.int .i64 (j : Int))).toNat
      simp [intOf]
      omega
    · have hz' : z < 0 ∨ z = (r : Int) := by omega
      clear hz
      rcases hz' with hz | rfl
      · go_wp2
        go_quiet (fail)
        go_wp2_with (first | (at_lookup; go_must (refine wpList_look_run _ rfl 50 _ _ false rfl _ _ _ rfl rfl (hlook1 _) ?_)) | (at_lookup; go_must (refine wpList_look_run _ rfl 50 _ _ false rfl _ _ _ rfl rfl (hlook2 _) ?_)))
        refine ⟨⟨j + 1, τ, ⟨rfl, rfl, HF.out.g0, rfl, HF.out.g5, rfl, HF.out.g8, HF.out.g9, HF.out.g11, rfl, HF.out.g68, HF.out.g69, HF.out.g70⟩, rfl, rfl, (by show Value.int .i64 ((j : Int) + 1) = _; simp), hlt, HS.out.trans ⟨fun _ _ h => h, fun _ h _ => h, rfl, rfl, rfl, Nat.le_refl _, fun _ _ _ => rfl⟩, HT.more (w := w.drewN nq) (L := L0 + j) (HT.same (w := w) HH.out (fun _ _ _ => rfl)) (by omega), HK3.out⟩, ?_⟩
        show lr - (intOf (Value.int .i64 ((j : Int) + 1))).toNat < lr - (intOf (Value.int .i64 (j : Int))).toNat
        simp [intOf]
        omega
      · go_wp2
        go_quiet (fail)
        go_wp2_with (first | (at_lookup; go_must (refine wpList_look_run _ rfl 50 _ _ false rfl _ _ _ rfl rfl (hlook1 _) ?_)) | (at_lookup; go_must (refine wpList_look_run _ rfl 50 _ _ false rfl _ _ _ rfl rfl (hlook2 _) ?_)))
        refine ⟨⟨j + 1, τ, ⟨rfl, rfl, HF.out.g0, rfl, HF.out.g5, rfl, HF.out.g8, HF.out.g9, HF.out.g11, rfl, HF.out.g68, HF.out.g69, HF.out.g70⟩, rfl, rfl, (by show Value.int .i64 ((j : Int) + 1) = _; simp), hlt, HS.out.trans ⟨fun _ _ h => h, fun _ h _ => h, rfl, rfl, rfl, Nat.le_refl _, fun _ _ _ => rfl⟩, HT.more (w := w.drewN nq) (L := L0 + j) (HT.same (w := w) HH.out (fun _ _ _ => rfl)) (by omega), HK3.out⟩, ?_⟩
        show lr - (intOf (Value.int .i64 ((j : Int) + 1))).toNat < lr - (intOf (Value.int .i64 (j : Int))).toNat
        simp [intOf]
        omega
end Go.Proofs.Qxb6001364a
