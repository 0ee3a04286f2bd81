import Derived.Test.Qxb6001364aS3
namespace Go.Proofs.Qxb6001364a
open Go.ChangeShapes Go.WideShapes Go.ChangeAt Go.RowKit Go.Maps

def dropSeq : Nat → Code → Code
  | 0, c => c
  | n + 1, .seq _ b => dropSeq n b
  | _ + 1, c => c
/-- The body of block k. -/
def blk (k : Nat) : Code → Option Code
  | .block i c => if i = k then some c else blk k c
  | .loop c => blk k c
  | .seq a b => match blk k a with
    | some c => some c
    | none => blk k b
  | .scope c => blk k c
  | .cond _ a b => match blk k a with
    | some c => some c
    | none => blk k b
  | _ => none
def tailOf (f : Func) (k n : Nat) : Code := dropSeq n ((blk k (f.body.getD .skip)).getD .skip)

set_option maxHeartbeats 8000000 in
set_option maxRecDepth 100000 in
theorem tail3 (C : PC) (w0 : World) (r2 : Option Obj) (bm1 cm1 : Nat) (F1 : Int → Option Value) (bm2 cm2 : Nat) (F2 : Int → Option Value) (bm4 bc : Nat) (rv : Value) (x1 : World) (τ : Tags) (LL : Nat) (v4 v5 : Value) (cm4 : Nat) (F4 : Int → Option Value) (hi : Nat) (c0 c5 c8 c11 c68 c69 c70 : Value)
    (hS : S3 C w0 r2 bm1 cm1 F1 bm2 cm2 F2 bm4 bc rv x1 τ LL v4 v5 cm4 F4 hi) (h4 : lenV v4 = hi) (h5 : lenV v5 = hi) (hL : LL + 3 < 1099511627776) (hn : C.n ≤ 65536) (r d : Nat) (hr : r < C.n) (hd : d < hi)
    (a : Act) (hF : Fr a c0 (.pointer (some ⟨C.pb, 0, none⟩)) c5 (.map (some bm1)) c8 (.map (some bm2)) c11 (.pointer (some ⟨bc, 0, none⟩)) c68 c69 c70) (g18 : G a 18 = .int .i64 (r : Int)) (g19 : G a 19 = .int .i64 (d : Int)) (Q : Exit → Act → World → Prop)
    (hK : ∀ a' w' τ', Fr a' c0 (.pointer (some ⟨C.pb, 0, none⟩)) c5 (.map (some bm1)) c8 (.map (some bm2)) c11 (.pointer (some ⟨bc, 0, none⟩)) c68 c69 c70 → G a' 159 = G a 159 → G a' 160 = G a 160 → G a' 161 = G a 161 → S3 C w0 r2 bm1 cm1 F1 bm2 cm2 F2 bm4 bc rv w' τ' (LL + 3) v4 v5 cm4 F4 hi → Q .normal a' w')
    (hret : ∀ a' w', a'.tmps.size = 405 → a'.defers = [] → G a' 2 = .pointer none → G a' 3 = .bool false → Below w0.heap.size w0 w' → Q .ret a' w') (K : Act → World → Prop) (hrest : ∀ a w, Code.wp Try.prog (tailOf Try.f38 6 4) Q a w → K a w) :
    Code.wp Try.prog (regOf Try.f38 42) (Exit.then K Q) a x1 := by
  have HRest : Hid (∀ a w, Code.wp Try.prog (tailOf Try.f38 6 4) Q a w → K a w) := ⟨hrest⟩
  clear hrest
  have HF : Hid (Fr a c0 (.pointer (some ⟨C.pb, 0, none⟩)) c5 (.map (some bm1)) c8 (.map (some bm2)) c11 (.pointer (some ⟨bc, 0, none⟩)) c68 c69 c70) := ⟨hF⟩
  have HK : Hid (∀ a' w' τ', Fr a' c0 (.pointer (some ⟨C.pb, 0, none⟩)) c5 (.map (some bm1)) c8 (.map (some bm2)) c11 (.pointer (some ⟨bc, 0, none⟩)) c68 c69 c70 → G a' 159 = G a 159 → G a' 160 = G a 160 → G a' 161 = G a 161 → S3 C w0 r2 bm1 cm1 F1 bm2 cm2 F2 bm4 bc rv w' τ' (LL + 3) v4 v5 cm4 F4 hi → Q .normal a' w') := ⟨hK⟩
  have HR : Hid (∀ a' w', a'.tmps.size = 405 → a'.defers = [] → G a' 2 = .pointer none → G a' 3 = .bool false → Below w0.heap.size w0 w' → Q .ret a' w') := ⟨hret⟩
  have HS : Hid (S3 C w0 r2 bm1 cm1 F1 bm2 cm2 F2 bm4 bc rv x1 τ LL v4 v5 cm4 F4 hi) := ⟨hS⟩
  have H18 : Hid (G a 18 = .int .i64 (r : Int)) := ⟨g18⟩
  have H19 : Hid (G a 19 = .int .i64 (d : Int)) := ⟨g19⟩
  obtain ⟨b4, l4, c4, rfl, tb4, hl4, hd4⟩ := hS.P.s4.at_ (i := d) (by omega)
  have Htb4 : Hid (τ b4 = some (2, c4)) := ⟨tb4⟩
  obtain ⟨b5, l5, c5', rfl, _, _, hd5⟩ := hS.P.s5.at_ (i := d) (by omega)
  clear hF hK hret hS g18 g19 tb4
  refine reg42 C w0 x1 τ LL _ _ HS.out.P (by omega) C.b0 C.n C.n (fun w τw Lw h => h.cell 0) HS.out.P.t0 (Nat.le_refl _) a HF.out.sz HF.out.g4 r d H18.out H19.out hr _ ?_
  intro a1 x2 τ2 hsz1 hdf1 hout1 hP2 hst2 hk2
  refine HRest.out _ _ ?_
  clear HRest K
  conv => arg 2; whnf
  go_wp2
  refine reg43 C w0 x2 τ2 (LL + 1) _ _ hP2 (by omega) b4 l4 c4 (fun w τw Lw h => h.cell 4) (hst2.ext _ _ Htb4.out) hl4 a1 (hsz1.trans HF.out.sz) ((hout1 4 (by decide)).trans HF.out.g4) d r ((hout1 19 (by decide)).trans H19.out) ((hout1 18 (by decide)).trans H18.out) hd4 _ ?_
  intro a2 x3 τ3 hsz2 hdf2 hout2 hP3 hst3 hk3
  have hsz := hsz2.trans (hsz1.trans HF.out.sz)
  have hdf := hdf2.trans (hdf1.trans HF.out.df)
  have hout : ∀ s, (s < 203 ∨ 235 ≤ s) → G a2 s = G a s := fun s hs => (hout2 s (by omega)).trans (hout1 s (by omega))
  have HF3 : Hid (Fr a2 c0 (.pointer (some ⟨C.pb, 0, none⟩)) c5 (.map (some bm1)) c8 (.map (some bm2)) c11 (.pointer (some ⟨bc, 0, none⟩)) c68 c69 c70) := ⟨hsz, hdf, (hout 0 (by decide)).trans HF.out.g0, (hout 4 (by decide)).trans HF.out.g4, (hout 5 (by decide)).trans HF.out.g5, (hout 7 (by decide)).trans HF.out.g7, (hout 8 (by decide)).trans HF.out.g8, (hout 9 (by decide)).trans HF.out.g9, (hout 11 (by decide)).trans HF.out.g11, (hout 16 (by decide)).trans HF.out.g16, (hout 68 (by decide)).trans HF.out.g68, (hout 69 (by decide)).trans HF.out.g69, (hout 70 (by decide)).trans HF.out.g70⟩
  have f18 : G a2 18 = .int .i64 (r : Int) := (hout 18 (by decide)).trans H18.out
  have f19 : G a2 19 = .int .i64 (d : Int) := (hout 19 (by decide)).trans H19.out
  have H159 : Hid (G a2 159 = G a 159 ∧ G a2 160 = G a 160 ∧ G a2 161 = G a 161) := ⟨hout 159 (by decide), hout 160 (by decide), hout 161 (by decide)⟩
  have HS3 : Hid (S3 C w0 r2 bm1 cm1 F1 bm2 cm2 F2 bm4 bc rv x3 τ3 (LL + 1 + 1) (.slice (some ⟨b4, 0, none⟩) l4 c4) (.slice (some ⟨b5, 0, none⟩) l5 c5') cm4 F4 hi) := ⟨(HS.out.step hst2 hk2 hP2 (Nat.le_succ _)).step hst3 hk3 hP3 (Nat.le_succ _)⟩
  clear hsz hdf hout hP2 hP3 hk2 hk3 hst2 hst3 hsz1 hsz2 hdf1 hdf2 hout1 hout2 HS HF H18 H19 Htb4
  obtain ⟨u, rfl, hu⟩ := frame_any a2 HF3.out.sz HF3.out.df
  have e4 := (hu 4).trans HF3.out.g4
  have e7 := (hu 7).trans HF3.out.g7
  have e9 := (hu 9).trans HF3.out.g9
  have e18 := (hu 18).trans f18
  have e19 := (hu 19).trans f19
  clear hu f18 f19
  rw [e4, e7, e9, e18, e19]
  clear e4 e7 e9 e18 e19
  obtain ⟨f, hf, hf1, hf2⟩ := HS3.out.m1.get ⟨by omega, by omega⟩ (r : Int)
  have hlook1 : (Instr.lookup 50 (.map (some bm1)) (.int .i64 (r : Int)) false).run Try.prog x3 = .ok (.int .i64 f) x3 := by
    rw [← hf]
    exact (HS3.out.m1.map.look 50 3 (.int .i64 0) law3 Try.underlying50 zero3 rfl (kI_key (x := (r : Int)) (by unfold Fits; omega))).2
  have Hf : Hid ((F1 (r : Int)).getD (.int .i64 0) = .int .i64 f) := ⟨hf⟩
  clear hf
  by_cases hf0 : 0 ≤ f
  · obtain ⟨i, rfl⟩ := Int.eq_ofNat_of_zero_le hf0
    go_wp2_with (at_lookup; go_must (refine wpList_look_run _ rfl 50 _ _ false rfl _ _ _ rfl rfl hlook1 ?_))
    refine reg45 C w0 x3 τ3 (LL + 1 + 1) _ _ HS3.out.P (by omega) hn bm1 cm1 F1 (-1) C.n HS3.out.m1 _ rfl rfl r i rfl rfl hr Hf.out (by omega) _ ?_
    intro a4 x4 τ4 hsz hdf hout hP4 hst4 hk4
    have HF4 : Hid (Fr a4 c0 (.pointer (some ⟨C.pb, 0, none⟩)) c5 (.map (some bm1)) c8 (.map (some bm2)) c11 (.pointer (some ⟨bc, 0, none⟩)) c68 c69 c70) := ⟨hsz, hdf, (hout 0 (by decide)).trans HF3.out.g0, hout 4 (by decide), (hout 5 (by decide)).trans HF3.out.g5, hout 7 (by decide), (hout 8 (by decide)).trans HF3.out.g8, hout 9 (by decide), (hout 11 (by decide)).trans HF3.out.g11, (hout 16 (by decide)).trans HF3.out.g16, (hout 68 (by decide)).trans HF3.out.g68, (hout 69 (by decide)).trans HF3.out.g69, (hout 70 (by decide)).trans HF3.out.g70⟩
    have f18 : G a4 18 = .int .i64 (r : Int) := hout 18 (by decide)
    have f19 : G a4 19 = .int .i64 (d : Int) := hout 19 (by decide)
    have H160 : Hid (G a4 159 = G a 159 ∧ G a4 160 = G a 160 ∧ G a4 161 = G a 161) := ⟨(hout 159 (by decide)).trans H159.out.1, (hout 160 (by decide)).trans H159.out.2.1, (hout 161 (by decide)).trans H159.out.2.2⟩
    have HS4 : Hid (S3 C w0 r2 bm1 cm1 F1 bm2 cm2 F2 bm4 bc rv x4 τ4 (LL + 1 + 1 + 1) (.slice (some ⟨b4, 0, none⟩) l4 c4) (.slice (some ⟨b5, 0, none⟩) l5 c5') cm4 F4 hi) := ⟨HS3.out.step hst4 hk4 hP4 (Nat.le_succ _)⟩
    clear hsz hdf hout hP4 hst4 hk4 HS3 HF3 H159 hlook1
    obtain ⟨u', rfl, hu⟩ := frame_any a4 HF4.out.sz HF4.out.df
    have e4 := (hu 4).trans HF4.out.g4
    have e7 := (hu 7).trans HF4.out.g7
    have e9 := (hu 9).trans HF4.out.g9
    have e18 := (hu 18).trans f18
    have e19 := (hu 19).trans f19
    clear hu f18 f19
    rw [e4, e7, e9, e18, e19]
    clear e4 e7 e9 e18 e19
    obtain ⟨bb, hbb⟩ := HS4.out.m2.get (r : Int)
    have hlook2 : (Instr.lookup 88 (.map (some bm2)) (.int .i64 (r : Int)) false).run Try.prog x4 = .ok (.bool bb) x4 := by
      rw [← hbb]
      exact (HS4.out.m2.map.look 88 4 (.bool false) law3 Try.underlying88 zero4 rfl (kI_key (x := (r : Int)) (by unfold Fits; omega))).2
    clear hbb
    obtain ⟨b', l', c', heq, tb5, hl5, hd5'⟩ := HS4.out.P.s5.at_ (i := d) hd5
    obtain ⟨rfl, rfl, rfl⟩ : b5 = b' ∧ l5 = l' ∧ c5' = c' := by simpa using heq
    clear heq
    obtain ⟨y, hy, ⟨z, rfl⟩, fy⟩ := HS4.out.P.ht.cell tb5 rfl (i := d) (by omega)
    have k5 : x4.cell? ⟨C.pb, 5, none⟩ = some (.slice (some ⟨b5, 0, none⟩) l5 c5') := HS4.out.P.cell 5
    have hix5 := run_ix 22 3 b5 l5 c5' d hd5' Try.underlying22 Try.cell3
    have HT5 : Hid (τ4 b5 = some (0, c5')) := ⟨tb5⟩
    clear tb5
    cases bb with
    | false =>
      go_wp2_with (at_lookup; go_must (refine wpList_look_run _ rfl 88 _ _ false rfl _ _ _ rfl rfl hlook2 ?_))
      exact HK.out _ _ τ4 ⟨rfl, rfl, HF4.out.g0, rfl, HF4.out.g5, rfl, HF4.out.g8, rfl, HF4.out.g11, HF4.out.g16, HF4.out.g68, HF4.out.g69, HF4.out.g70⟩ H160.out.1 H160.out.2.1 H160.out.2.2 (HS4.out.step (Stp.refl _ _) (K3.refl _ _) (HS4.out.P.step (Stp.refl _ _) (HS4.out.P.ht.more (L' := LL + 3) (by omega)) (by omega)) (by omega))
    | true =>
      by_cases hz : 0 ≤ z
      · go_wp2_with (at_lookup; go_must (refine wpList_look_run _ rfl 88 _ _ false rfl _ _ _ rfl rfl hlook2 ?_))
        exact HR.out _ _ rfl rfl rfl rfl HS4.out.P.bel
      · go_wp2_with (at_lookup; go_must (refine wpList_look_run _ rfl 88 _ _ false rfl _ _ _ rfl rfl hlook2 ?_))
        have hp := HS4.out.P.put HT5.out d (v := .int .i64 (r : Int)) ⟨_, rfl⟩
        exact HK.out _ _ τ4 ⟨rfl, rfl, HF4.out.g0, rfl, HF4.out.g5, rfl, HF4.out.g8, rfl, HF4.out.g11, HF4.out.g16, HF4.out.g68, HF4.out.g69, HF4.out.g70⟩ H160.out.1 H160.out.2.1 H160.out.2.2 (HS4.out.step (Stp.put HT5.out _) (K3.put HT5.out (show (0 : Nat) ≠ 3 by decide) _) (hp.step (Stp.refl _ _) (hp.ht.more (L' := LL + 3) (by omega)) (by omega)) (by omega))

  · skip
    obtain ⟨bb, hbb⟩ := HS3.out.m2.get (r : Int)
    have hlook2 : (Instr.lookup 88 (.map (some bm2)) (.int .i64 (r : Int)) false).run Try.prog x3 = .ok (.bool bb) x3 := by
      rw [← hbb]
      exact (HS3.out.m2.map.look 88 4 (.bool false) law3 Try.underlying88 zero4 rfl (kI_key (x := (r : Int)) (by unfold Fits; omega))).2
    clear hbb
    obtain ⟨b', l', c', heq, tb5, hl5, hd5'⟩ := HS3.out.P.s5.at_ (i := d) hd5
    obtain ⟨rfl, rfl, rfl⟩ : b5 = b' ∧ l5 = l' ∧ c5' = c' := by simpa using heq
    clear heq
    obtain ⟨y, hy, ⟨z, rfl⟩, fy⟩ := HS3.out.P.ht.cell tb5 rfl (i := d) (by omega)
    have k5 : x3.cell? ⟨C.pb, 5, none⟩ = some (.slice (some ⟨b5, 0, none⟩) l5 c5') := HS3.out.P.cell 5
    have hix5 := run_ix 22 3 b5 l5 c5' d hd5' Try.underlying22 Try.cell3
    have HT5 : Hid (τ3 b5 = some (0, c5')) := ⟨tb5⟩
    clear tb5
    cases bb with
    | false =>
      go_wp2_with (first | (at_lookup; refine wpList_look_run _ rfl 50 _ _ false rfl _ _ _ rfl rfl hlook1 ?_) | (at_lookup; go_must (refine wpList_look_run _ rfl 88 _ _ false rfl _ _ _ rfl rfl hlook2 ?_)))
      exact HK.out _ _ τ3 ⟨rfl, rfl, HF3.out.g0, rfl, HF3.out.g5, rfl, HF3.out.g8, rfl, HF3.out.g11, HF3.out.g16, HF3.out.g68, HF3.out.g69, HF3.out.g70⟩ H159.out.1 H159.out.2.1 H159.out.2.2 (HS3.out.step (Stp.refl _ _) (K3.refl _ _) (HS3.out.P.step (Stp.refl _ _) (HS3.out.P.ht.more (L' := LL + 3) (by omega)) (by omega)) (by omega))
    | true =>
      by_cases hz : 0 ≤ z
      · go_wp2_with (first | (at_lookup; refine wpList_look_run _ rfl 50 _ _ false rfl _ _ _ rfl rfl hlook1 ?_) | (at_lookup; go_must (refine wpList_look_run _ rfl 88 _ _ false rfl _ _ _ rfl rfl hlook2 ?_)))
        exact HR.out _ _ rfl rfl rfl rfl HS3.out.P.bel
      · go_wp2_with (first | (at_lookup; refine wpList_look_run _ rfl 50 _ _ false rfl _ _ _ rfl rfl hlook1 ?_) | (at_lookup; go_must (refine wpList_look_run _ rfl 88 _ _ false rfl _ _ _ rfl rfl hlook2 ?_)))
        have hp := HS3.out.P.put HT5.out d (v := .int .i64 (r : Int)) ⟨_, rfl⟩
        exact HK.out _ _ τ3 ⟨rfl, rfl, HF3.out.g0, rfl, HF3.out.g5, rfl, HF3.out.g8, rfl, HF3.out.g11, HF3.out.g16, HF3.out.g68, HF3.out.g69, HF3.out.g70⟩ H159.out.1 H159.out.2.1 H159.out.2.2 (HS3.out.step (Stp.put HT5.out _) (K3.put HT5.out (show (0 : Nat) ≠ 3 by decide) _) (hp.step (Stp.refl _ _) (hp.ht.more (L' := LL + 3) (by omega)) (by omega)) (by omega))

end Go.Proofs.Qxb6001364a
