import Derived.Test.Qxb6001364aT3
import Derived.Test.Qxb6001364aL5
import Derived.Deep.Cut
namespace Go.Proofs.Qxb6001364a
open Go.ChangeShapes Go.WideShapes Go.ChangeAt Go.RowKit Go.Maps

def Inv3 (C : PC) (w0 : World) (r2 : Option Obj) (bm1 cm1 : Nat) (F1 : Int → Option Value) (bm2 cm2 : Nat) (F2 : Int → Option Value) (bm4 bc : Nat) (rv : Value) (L0 : Nat) (c0 c5 c8 c11 c68 c69 c70 : Value) (a : Act) (w : World) : Prop :=
  ∃ (j : Nat) (τ : Tags) (L : Nat) (v4 v5 : Value) (cm4 : Nat) (F4 : Int → Option Value), Fr a c0 (.pointer (some ⟨C.pb, 0, none⟩)) c5 (.map (some bm1)) c8 (.map (some bm2)) c11 (.pointer (some ⟨bc, 0, none⟩)) c68 c69 c70 ∧ G a 159 = rv ∧ G a 160 = .int .i64 (lenV rv : Nat) ∧ G a 161 = .int .i64 j ∧ j ≤ lenV rv ∧ S3 C w0 r2 bm1 cm1 F1 bm2 cm2 F2 bm4 bc rv w τ L v4 v5 cm4 F4 (lenV v5) ∧ lenV v4 = lenV v5 ∧ L ≤ L0 + 5 * j ∧ cm4 ≤ j ∧ (0 < j → 0 < lenV v5)

set_option maxHeartbeats 8000000 in
set_option maxRecDepth 100000 in
theorem loop3 (C : PC) (w0 : World) (r2 : Option Obj) (bm1 cm1 : Nat) (F1 : Int → Option Value) (bm2 cm2 : Nat) (F2 : Int → Option Value) (bm4 bc : Nat) (rv : Value) (L0 : Nat) (c0 c5 c8 c11 c68 c69 c70 : Value)
    (hL : L0 + 5 * lenV rv + 5 < 1099511627776) (hn : C.n ≤ 65536) (a : Act) (w3 : World) (hI : Inv3 C w0 r2 bm1 cm1 F1 bm2 cm2 F2 bm4 bc rv L0 c0 c5 c8 c11 c68 c69 c70 a w3)
    (Q : Exit → Act → World → Prop)
    (hexit : ∀ a' w' τ' L' v4' v5' cm4' F4', Fr a' c0 (.pointer (some ⟨C.pb, 0, none⟩)) c5 (.map (some bm1)) c8 (.map (some bm2)) c11 (.pointer (some ⟨bc, 0, none⟩)) c68 c69 c70 → S3 C w0 r2 bm1 cm1 F1 bm2 cm2 F2 bm4 bc rv w' τ' L' v4' v5' cm4' F4' (lenV v5') → lenV v4' = lenV v5' → L' ≤ L0 + 5 * lenV rv → (0 < lenV rv → 0 < lenV v5') → Q (.exit 5) a' w')
    (hret : ∀ a' w', a'.tmps.size = 405 → a'.defers = [] → G a' 2 = .pointer none → G a' 3 = .bool false → Below w0.heap.size w0 w' → Q .ret a' w') :
    Code.wp Try.prog (Code.loop (bodyOf Try.f38 2)) Q a w3 := by
  refine wp_loop (Inv3 C w0 r2 bm1 cm1 F1 bm2 cm2 F2 bm4 bc rv L0 c0 c5 c8 c11 c68 c69 c70) (fun a _ => lenV rv - (intOf (G a 161)).toNat) hI ?_
  clear hI a w3
  rintro a w ⟨j, τ, L, v4, v5, cm4, F4, hF, g159, g160, g161, hj, hS, h45, hLj, hcm, hpos⟩
  obtain ⟨u, rfl, hu⟩ := frame_any a hF.sz hF.df
  have e4 := (hu 4).trans hF.g4
  have e7 := (hu 7).trans hF.g7
  have e16 := (hu 16).trans hF.g16
  have e159 := (hu 159).trans g159
  have e160 := (hu 160).trans g160
  have e161 := (hu 161).trans g161
  have HF : Hid (Fr _ c0 (.pointer (some ⟨C.pb, 0, none⟩)) c5 (.map (some bm1)) c8 (.map (some bm2)) c11 (.pointer (some ⟨bc, 0, none⟩)) c68 c69 c70) := ⟨hF⟩
  clear hF hu g159 g160
  rw [g161]
  clear g161
  conv => arg 2; whnf
  rw [e4, e7, e16, e159, e160, e161]
  have HX : Hid (∀ a' w' τ' L' v4' v5' cm4' F4', Fr a' c0 (.pointer (some ⟨C.pb, 0, none⟩)) c5 (.map (some bm1)) c8 (.map (some bm2)) c11 (.pointer (some ⟨bc, 0, none⟩)) c68 c69 c70 → S3 C w0 r2 bm1 cm1 F1 bm2 cm2 F2 bm4 bc rv w' τ' L' v4' v5' cm4' F4' (lenV v5') → lenV v4' = lenV v5' → L' ≤ L0 + 5 * lenV rv → (0 < lenV rv → 0 < lenV v5') → Q (.exit 5) a' w') := ⟨hexit⟩
  have HR : Hid (∀ a' w', a'.tmps.size = 405 → a'.defers = [] → G a' 2 = .pointer none → G a' 3 = .bool false → Below w0.heap.size w0 w' → Q .ret a' w') := ⟨hret⟩
  have HS : Hid (S3 C w0 r2 bm1 cm1 F1 bm2 cm2 F2 bm4 bc rv w τ L v4 v5 cm4 F4 (lenV v5)) := ⟨hS⟩
  clear hexit hret e4 e7 e16 e159 e160 e161
  by_cases hlt : j < lenV rv
  case neg =>
    obtain rfl : j = lenV rv := by omega
    have HP : Hid (0 < lenV rv → 0 < lenV v5) := ⟨hpos⟩
    clear hlt hS hpos
    go_wp2
    exact HX.out _ _ τ L v4 v5 cm4 F4 ⟨rfl, rfl, HF.out.g0, rfl, HF.out.g5, rfl, HF.out.g8, HF.out.g9, HF.out.g11, rfl, HF.out.g68, HF.out.g69, HF.out.g70⟩ HS.out h45 hLj HP.out
  case pos =>
    obtain ⟨br, lr, cr, rfl, tbr, hlr, hjr⟩ := hS.rv.at_ hlt
    obtain ⟨y, hy, ⟨r, rfl, hr⟩, _⟩ := hS.P.ht.cell tbr rfl (i := j) (by omega)
    have hix := run_ix 22 3 br lr cr j hjr Try.underlying22 Try.cell3
    obtain ⟨f, hf, hf1, hf2⟩ := hS.m1.get ⟨by omega, by omega⟩ (r : Int)
    have hlook1 : (Instr.lookup 50 (.map (some bm1)) (.int .i64 (r : Int)) false).run Try.prog w = .ok (.int .i64 f) w := by
      rw [← hf]
      exact (hS.m1.map.look 50 3 (.int .i64 0) law3 Try.underlying50 zero3 rfl (kI_key (x := (r : Int)) (by unfold Fits; omega))).2
    have hfit : Fits f := by unfold Fits; omega
    have hlook4 := (hS.m4.map.look 50 3 (.int .i64 0) law3 Try.underlying50 zero3 rfl (kI_key hfit)).1
    have kc : w.cell? ⟨bc, 0, none⟩ = some (.map (some bm4)) := by
      rw [cell_of_row w bc 0 _ _ _ hS.bcr]
      rfl
    simp only [lenV] at hj hlt hL
    have hl : lenV (.slice (some ⟨br, 0, none⟩) lr cr) = lr := rfl
    rw [hl]
    clear hl tbr hpos
    cases hF4 : F4 f with
    | some v =>
      obtain ⟨d', rfl, hd0, hd1⟩ := hS.m4.val f v hF4
      obtain ⟨d, rfl⟩ := Int.eq_ofNat_of_zero_le hd0
      rw [hF4] at hlook4
      have hlk : (Instr.lookup 50 (.map (some bm4)) (.int .i64 f) true).run Try.prog w = .ok (.tuple #[.int .i64 (d : Int), .bool true]) w := hlook4
      clear hS hlook4 hF4 hf
      go_upto_region 42 with (first | (at_lookup; refine wpList_look_run _ rfl 50 _ _ false rfl _ _ _ rfl rfl hlook1 ?_) | (at_lookup; go_must (refine wpList_look_run _ rfl 50 _ _ true rfl _ _ _ rfl rfl hlk ?_)))
      refine tail3 C w0 r2 bm1 cm1 F1 bm2 cm2 F2 bm4 bc _ w τ L v4 v5 cm4 F4 (lenV v5) c0 c5 c8 c11 c68 c69 c70 HS.out h45 rfl (by omega) hn r d hr (by omega) _ ?_ ?_ ?_ _ ?_ ?_ _ (by assumption)
      · exact ⟨rfl, rfl, HF.out.g0, rfl, HF.out.g5, rfl, HF.out.g8, HF.out.g9, HF.out.g11, rfl, HF.out.g68, HF.out.g69, HF.out.g70⟩
      · rfl
      · rfl
      · intro a' w' τ' hF' h1 h2 h3 hS'
        have f159 : G a' 159 = .slice (some ⟨br, 0, none⟩) lr cr := h1
        have f160 : G a' 160 = .int .i64 (lr : Int) := h2
        have f161 : G a' 161 = .int .i64 (j : Int) := h3
        have HF' : Hid (Fr a' c0 (.pointer (some ⟨C.pb, 0, none⟩)) c5 (.map (some bm1)) c8 (.map (some bm2)) c11 (.pointer (some ⟨bc, 0, none⟩)) c68 c69 c70) := ⟨hF'⟩
        have HS' : Hid (S3 C w0 r2 bm1 cm1 F1 bm2 cm2 F2 bm4 bc (.slice (some ⟨br, 0, none⟩) lr cr) w' τ' (L + 3) (v4) (v5) (cm4) (F4) (lenV v5)) := ⟨hS'⟩
        clear hF' h1 h2 h3 hS' HF HS
        obtain ⟨u', rfl, hu⟩ := frame_any a' HF'.out.sz HF'.out.df
        have e161 := (hu 161).trans f161
        clear hu
        rw [e161]
        go_wp2
        refine ⟨⟨j + 1, τ', L + 3, v4, v5, cm4, F4, ⟨rfl, rfl, HF'.out.g0, HF'.out.g4, HF'.out.g5, HF'.out.g7, HF'.out.g8, HF'.out.g9, HF'.out.g11, HF'.out.g16, HF'.out.g68, HF'.out.g69, HF'.out.g70⟩, f159, f160, (by show Value.int .i64 ((j : Int) + 1) = _; simp), hlt, HS'.out, ?_, (by omega), (by omega), ?_⟩, ?_⟩
        · exact h45
        · intro _; omega
        · show lr - (intOf (Value.int .i64 ((j : Int) + 1))).toNat < lr - (intOf (Value.int .i64 (j : Int))).toNat
          simp [intOf]
          omega
      · intro a' w' h1 h2 h3 h4 h5
        exact HR.out a' w' h1 h2 h3 h4 h5
    | none =>
      rw [hF4] at hlook4
      have hlk : (Instr.lookup 50 (.map (some bm4)) (.int .i64 f) true).run Try.prog w = .ok (.tuple #[.int .i64 0, .bool false]) w := hlook4
      obtain ⟨ad4, l4, c4, rfl, hl4L⟩ := hS.P.s4.form
      obtain ⟨x1, hput, hM1, hg1⟩ := hS.m4.map.put 50 3 law3 Try.underlying50 (by unfold maxLen; omega) kI_inj (kI_key hfit) (v := .int .i64 (l4 : Int)) rfl
      have h45' : l4 = lenV v5 := h45
      have k4 : w.cell? ⟨C.pb, 4, none⟩ = some (.slice ad4 l4 c4) := hS.P.cell 4
      have HS1 : Hid (S3 C w0 r2 bm1 cm1 F1 bm2 cm2 F2 bm4 bc (.slice (some ⟨br, 0, none⟩) lr cr) x1 τ L (.slice ad4 l4 c4) v5 (cm4 + 1) (updG F4 f (.int .i64 (l4 : Int))) (lenV v5 + 1)) := ⟨hS.put f l4 (by omega) hM1 hg1⟩
      have k4' : x1.cell? ⟨C.pb, 4, none⟩ = some (.slice ad4 l4 c4) := HS1.out.P.cell 4
      have hput' : (Instr.mapUpdate 50 (.map (some bm4)) (.int .i64 f) (.int .i64 (l4 : Int))).run Try.prog w = .ok () x1 := hput
      have H45 : Hid (l4 = lenV v5) := ⟨h45'⟩
      clear hS hlook4 hF4 hf HS hM1 hg1 hput h45' h45
      go_upto_region 40 with (first | (at_lookup; refine wpList_look_run _ rfl 50 _ _ false rfl _ _ _ rfl rfl hlook1 ?_) | (at_lookup; go_must (refine wpList_look_run _ rfl 50 _ _ true rfl _ _ _ rfl rfl hlk ?_)) | (at_mapUpdate; go_must (refine wpList_put_run _ rfl 50 _ _ _ rfl _ _ _ x1 rfl rfl rfl hput' ?_)))
      clear hlook1 hlk hput' k4 kc hix hy
      go_upto_region 41 with (at_builtin; go_must (refine list_app2 (HS1.out.P.alloc _).ht HS1.out.P.s4 (by omega) _ (heap_alloc_new _ _) rfl (.tmp 189) (.tmp 190) rfl 1 rfl rfl ?_; intro g c y1 τ2 hT hSl hSt hk; have HK : Hid (K3 τ x1 y1) := ⟨(K3.alloc _ _ _).trans (Stp.alloc _ _ _) hk⟩; have HP2 : Hid (PSt C w0 y1 τ2 (L + 1) (.slice ad4 l4 c4) v5) := ⟨(HS1.out.P.alloc _).step hSt hT (Nat.le_succ _)⟩; have HSt : Hid (Stp τ x1 τ2 y1) := ⟨(Stp.alloc _ _ _).trans hSt⟩; have HSl : Hid (SlTo τ2 (L + 1) 2 (.slice (some ⟨g, 0, none⟩) (l4 + 1) c)) := ⟨hSl⟩; have p4 : y1.cell? ⟨C.pb, 4, none⟩ = some (.slice ad4 l4 c4) := HP2.out.cell 4; have q4 : y1.frozen? ⟨C.pb, 4, none⟩ = false := frozen_of_row y1 _ _ _ _ HP2.out.row; clear hT hSl hSt hk))
      obtain ⟨y2, hy2⟩ : ∃ y2 : World, y2 = y1.setCell ⟨C.pb, 4, none⟩ (.slice (some ⟨g, 0, none⟩) (lenV (.slice ad4 l4 c4) + 1) c) := ⟨_, rfl⟩
      rw [← hy2]
      have HS2 : Hid (S3 C w0 r2 bm1 cm1 F1 bm2 cm2 F2 bm4 bc (.slice (some ⟨br, 0, none⟩) lr cr) y2 τ2 (L + 1) (.slice (some ⟨g, 0, none⟩) (l4 + 1) c) v5 (cm4 + 1) (updG F4 f (.int .i64 (l4 : Int))) (lenV v5 + 1)) := ⟨by rw [hy2]; exact (HS1.out.step HSt.out HK.out HP2.out (Nat.le_succ _)).pbAway 4 _ _ _ (HP2.out.set4 HSl.out)⟩
      have k5 : y2.cell? ⟨C.pb, 5, none⟩ = some v5 := HS2.out.P.cell 5
      clear hy2 HS1 HSt HP2 HSl p4 q4 k4'
      go_upto_region 42 with (at_builtin; go_must (refine list_app0 (HS2.out.P.alloc _).ht HS2.out.P.s5 (by omega) _ (-1) (heap_alloc_new _ _) rfl (.tmp 198) (.tmp 199) rfl 1 rfl rfl ?_; intro g2 c2 y3 τ3 hT hSl hSt hk; have HK3 : Hid (K3 τ2 y2 y3) := ⟨(K3.alloc _ _ _).trans (Stp.alloc _ _ _) hk⟩; have HP3 : Hid (PSt C w0 y3 τ3 (L + 1 + 1) (.slice (some ⟨g, 0, none⟩) (l4 + 1) c) v5) := ⟨(HS2.out.P.alloc _).step hSt hT (Nat.le_succ _)⟩; have HSt3 : Hid (Stp τ2 y2 τ3 y3) := ⟨(Stp.alloc _ _ _).trans hSt⟩; have HSl3 : Hid (SlTo τ3 (L + 1 + 1) 0 (.slice (some ⟨g2, 0, none⟩) (lenV v5 + 1) c2)) := ⟨hSl⟩; have p5 : y3.cell? ⟨C.pb, 5, none⟩ = some v5 := HP3.out.cell 5; have q5 : y3.frozen? ⟨C.pb, 5, none⟩ = false := frozen_of_row y3 _ _ _ _ HP3.out.row; clear hT hSl hSt hk))
      obtain ⟨y4, hy4⟩ : ∃ y4 : World, y4 = y3.setCell ⟨C.pb, 5, none⟩ (.slice (some ⟨g2, 0, none⟩) (lenV v5 + 1) c2) := ⟨_, rfl⟩
      rw [← hy4]
      have HS3 : Hid (S3 C w0 r2 bm1 cm1 F1 bm2 cm2 F2 bm4 bc (.slice (some ⟨br, 0, none⟩) lr cr) y4 τ3 (L + 1 + 1) (.slice (some ⟨g, 0, none⟩) (l4 + 1) c) (.slice (some ⟨g2, 0, none⟩) (lenV v5 + 1) c2) (cm4 + 1) (updG F4 f (.int .i64 (l4 : Int))) (lenV v5 + 1)) := ⟨by rw [hy4]; exact (HS2.out.step HSt3.out HK3.out HP3.out (Nat.le_succ _)).pbAway 5 _ _ _ (HP3.out.set5 HSl3.out)⟩
      clear hy4 HS2 HSt3 HP3 HSl3 p5 q5 k5
      refine tail3 C w0 r2 bm1 cm1 F1 bm2 cm2 F2 bm4 bc _ y4 τ3 (L + 1 + 1) _ _ (cm4 + 1) (updG F4 f (.int .i64 (l4 : Int))) (lenV v5 + 1) c0 c5 c8 c11 c68 c69 c70 HS3.out (by show l4 + 1 = lenV v5 + 1; have := H45.out; omega) rfl (by omega) hn r l4 hr (by have := H45.out; omega) _ ?_ ?_ ?_ _ ?_ ?_ _ (by assumption)
      · exact ⟨rfl, rfl, HF.out.g0, rfl, HF.out.g5, rfl, HF.out.g8, HF.out.g9, HF.out.g11, rfl, HF.out.g68, HF.out.g69, HF.out.g70⟩
      · rfl
      · rfl
      · intro a' w' τ' hF' h1 h2 h3 hS'
        have f159 : G a' 159 = .slice (some ⟨br, 0, none⟩) lr cr := h1
        have f160 : G a' 160 = .int .i64 (lr : Int) := h2
        have f161 : G a' 161 = .int .i64 (j : Int) := h3
        have HF' : Hid (Fr a' c0 (.pointer (some ⟨C.pb, 0, none⟩)) c5 (.map (some bm1)) c8 (.map (some bm2)) c11 (.pointer (some ⟨bc, 0, none⟩)) c68 c69 c70) := ⟨hF'⟩
        have HS' : Hid (S3 C w0 r2 bm1 cm1 F1 bm2 cm2 F2 bm4 bc (.slice (some ⟨br, 0, none⟩) lr cr) w' τ' (L + 1 + 1 + 3) (.slice (some ⟨g, 0, none⟩) (l4 + 1) c) (.slice (some ⟨g2, 0, none⟩) (lenV v5 + 1) c2) (cm4 + 1) (updG F4 f (.int .i64 (l4 : Int))) (lenV v5 + 1)) := ⟨hS'⟩
        clear hF' h1 h2 h3 hS' HF HS3
        obtain ⟨u', rfl, hu⟩ := frame_any a' HF'.out.sz HF'.out.df
        have e161 := (hu 161).trans f161
        clear hu
        rw [e161]
        go_wp2
        refine ⟨⟨j + 1, τ', L + 1 + 1 + 3, .slice (some ⟨g, 0, none⟩) (l4 + 1) c, .slice (some ⟨g2, 0, none⟩) (lenV v5 + 1) c2, cm4 + 1, updG F4 f (.int .i64 (l4 : Int)), ⟨rfl, rfl, HF'.out.g0, HF'.out.g4, HF'.out.g5, HF'.out.g7, HF'.out.g8, HF'.out.g9, HF'.out.g11, HF'.out.g16, HF'.out.g68, HF'.out.g69, HF'.out.g70⟩, f159, f160, (by show Value.int .i64 ((j : Int) + 1) = _; simp), hlt, HS'.out, ?_, (by omega), (by omega), ?_⟩, ?_⟩
        · show l4 + 1 = lenV v5 + 1
          have := H45.out
          omega
        · intro _
          exact Nat.succ_pos _
        · show lr - (intOf (Value.int .i64 ((j : Int) + 1))).toNat < lr - (intOf (Value.int .i64 (j : Int))).toNat
          simp [intOf]
          omega
      · intro a' w' h1 h2 h3 h4 h5
        exact HR.out a' w' h1 h2 h3 h4 h5
end Go.Proofs.Qxb6001364a
