import Derived.Test.Qxb6001364aReg1
import Derived.Test.Qxb6001364aL3
import Derived.Deep.Cut
namespace Go.Proofs.Qxb6001364a
open Go.ChangeShapes Go.WideShapes Go.ChangeAt Go.RowKit Go.Maps

/-- The graph in memory. -/
structure GraphAt (w0 : World) (gb n k bi ck gm : Nat) (accs : List (List (Nat × Bool))) : Prop where
  row : ∃ an cn m3 m4, w0.heap[gb]? = some (.cells #[.slice an n cn, .slice (some ⟨bi, 0, none⟩) k ck, .map (some gm), m3, m4] 79 (0, 0))
  gml : gm < w0.heap.size
  bil : bi < w0.heap.size
  item : ∀ x, x < k → ∃ s bl, w0.cell? ⟨bi, x, none⟩ = some (.string s) ∧ (∀ w' : World, w'.heap[gm]? = w0.heap[gm]? → (Instr.lookup 76 (.map (some gm)) (.string s) false).run Try.prog w' = .ok (.slice (some ⟨bl, 0, none⟩) (accs.getD x []).length (accs.getD x []).length) w') ∧ ListAt w0 bl (accs.getD x [])
  len : ∀ x, (accs.getD x []).length ≤ 65536
  nodes : ∀ x, ∀ y ∈ accs.getD x [], y.1 < n

theorem size_alloc_ (w : World) (o : Obj) : (w.alloc o).heap.size = w.heap.size + 1 := by simp
/-- The scan's start. -/
theorem S2.begin {C : PC} {w0 w : World} {τ : Tags} {L : Nat} {v4 v5 : Value} (h : PSt C w0 w τ L v4 v5) : S2 C w0 w.heap.size (w.heap.size + 1) (w.heap.size + 2) v4 v5 (((w.alloc (.map #[] 0)).alloc (.map #[] 0)).alloc (.map #[] 0)) τ L (.slice none 0 0) 0 (fun _ => none) (fun _ => none) (fun _ => none) := by
  have s1 := size_alloc_ w (.map #[] 0)
  have s2 := size_alloc_ (w.alloc (.map #[] 0)) (.map #[] 0)
  have k3 := heap_alloc_new ((w.alloc (.map #[] 0)).alloc (.map #[] 0)) (.map #[] 0)
  have k2 := (Below.heap_alloc ((w.alloc (.map #[] 0)).alloc (.map #[] 0)) (.map #[] 0) (w.alloc (.map #[] 0)).heap.size (by omega)).trans (heap_alloc_new (w.alloc (.map #[] 0)) (.map #[] 0))
  have k1 := (Below.heap_alloc ((w.alloc (.map #[] 0)).alloc (.map #[] 0)) (.map #[] 0) w.heap.size (by omega)).trans ((Below.heap_alloc (w.alloc (.map #[] 0)) (.map #[] 0) w.heap.size (by omega)).trans (heap_alloc_new w (.map #[] 0)))
  rw [s2, s1] at k3
  rw [s1] at k2
  have hb := h.bel.size
  exact ⟨((h.alloc _).alloc _).alloc _, ⟨MapG.made k1, h.ht.none_at (by omega), fun _ _ e => by cases e⟩, ⟨MapG.made k2, h.ht.none_at (by omega), fun _ _ e => by cases e⟩, ⟨MapG.made k3, h.ht.none_at (by omega), fun _ _ e => by cases e⟩, .inl rfl, by omega, by omega, by omega, by omega, by omega, by omega⟩

/-- The third loop's start. -/
theorem S3.begin {C : PC} {w0 w : World} {bm1 bm2 bm3 cm : Nat} {τ : Tags} {L : Nat} {v4 v5 rv : Value} {F1 F2 F3 : Int → Option Value} (h : S2 C w0 bm1 bm2 bm3 v4 v5 w τ L rv cm F1 F2 F3) : S3 C w0 w.heap[C.b2]? bm1 cm F1 bm2 cm F2 w.heap.size (w.heap.size + 1) rv ((w.alloc (.map #[] 0)).alloc (.cells #[.map (some w.heap.size)] 50)) τ L v4 v5 0 (fun _ => none) (lenV v5) := by
  have s1 := size_alloc_ w (.map #[] 0)
  have hs := (Stp.alloc τ w (.map #[] 0)).trans (Stp.alloc τ (w.alloc (.map #[] 0)) (.cells #[.map (some w.heap.size)] 50))
  have k2 := heap_alloc_new (w.alloc (.map #[] 0)) (.cells #[.map (some w.heap.size)] 50)
  have k1 := (Below.heap_alloc (w.alloc (.map #[] 0)) (.cells #[.map (some w.heap.size)] 50) w.heap.size (by omega)).trans (heap_alloc_new w (.map #[] 0))
  rw [s1] at k2
  have hb := h.P.bel.size
  have l1 := h.m1.map.lt
  have l2 := h.m2.map.lt
  have l3 := h.P.ht.lt h.P.t2
  exact ⟨(h.P.alloc _).alloc _, h.m1.step hs, h.m2.step hs, ⟨MapG.made k1, h.P.ht.none_at (by omega), fun _ _ e => by cases e⟩, k2, h.P.ht.none_at (by omega), h.rv, by omega, by omega, by omega, (Below.heap_alloc (w.alloc (.map #[] 0)) _ C.b2 (by omega)).trans (Below.heap_alloc w _ C.b2 l3)⟩

def Inv1 (C : PC) (w0 : World) (gb bi ck : Nat) (accs : List (List (Nat × Bool))) (a : Act) (w : World) : Prop :=
  ∃ (x : Nat) (τ : Tags) (L : Nat) (v4 v5 c5 c7 c8 c9 c11 c16 : Value), Fr a (.pointer (some ⟨gb, 0, none⟩)) (.pointer (some ⟨C.pb, 0, none⟩)) c5 c7 c8 c9 c11 c16 (.slice (some ⟨bi, 0, none⟩) C.k ck) (.int .i64 (C.k : Int)) (.int .i64 (x : Int)) ∧ x ≤ C.k ∧ PSt C w0 w τ L v4 v5 ∧ lenV v4 = lenV v5 ∧ L ≤ 589824 * x ∧ (∀ y, x ≤ y → y < C.k → w.cell? ⟨C.b2, y, none⟩ = some (.slice none 0 0)) ∧ ∀ i, i < x → ¬ Bad (accs.getD i [])

set_option maxHeartbeats 8000000 in
set_option maxRecDepth 100000 in
theorem loop1 (C : PC) (w0 : World) (gb bi ck gm : Nat) (accs : List (List (Nat × Bool))) (hG : GraphAt w0 gb C.n C.k bi ck gm accs) (hn : C.n ≤ 65536) (hk : C.k ≤ 65536) (a : Act) (w1 : World) (hI : Inv1 C w0 gb bi ck accs a w1)
    (Q : Exit → Act → World → Prop)
    (hexit : ∀ a' w', (∀ i, i < C.k → ¬ Bad (accs.getD i [])) → Q (.exit 0) a' w')
    (hret : ∀ a' w', a'.tmps.size = 405 → a'.defers = [] → G a' 2 = .pointer none → G a' 3 = .bool false → Below w0.heap.size w0 w' → Q .ret a' w') :
    Code.wp Try.prog (Code.loop (bodyOf Try.f38 0)) Q a w1 := by
  refine wp_loop (Inv1 C w0 gb bi ck accs) (fun a _ => C.k - (intOf (G a 70)).toNat) hI ?_
  clear hI a w1
  rintro a w ⟨x, τ, L, v4, v5, c5, c7, c8, c9, c11, c16, hF, hxk, hP, h45, hLx, hrows, hbad⟩
  obtain ⟨u, rfl, hu⟩ := frame_any a hF.sz hF.df
  have e0 := (hu 0).trans hF.g0
  have e4 := (hu 4).trans hF.g4
  have e68 := (hu 68).trans hF.g68
  have e69 := (hu 69).trans hF.g69
  have e70 := (hu 70).trans hF.g70
  have g70 := hF.g70
  clear hF hu
  rw [g70]
  clear g70
  conv => arg 2; whnf
  rw [e0, e4, e68, e69, e70]
  have HX : Hid (∀ a' w', (∀ i, i < C.k → ¬ Bad (accs.getD i [])) → Q (.exit 0) a' w') := ⟨hexit⟩
  have HR : Hid (∀ a' w', a'.tmps.size = 405 → a'.defers = [] → G a' 2 = .pointer none → G a' 3 = .bool false → Below w0.heap.size w0 w' → Q .ret a' w') := ⟨hret⟩
  have HP : Hid (PSt C w0 w τ L v4 v5) := ⟨hP⟩
  have HB : Hid (∀ i, i < x → ¬ Bad (accs.getD i [])) := ⟨hbad⟩
  have HRo : Hid (∀ y, x ≤ y → y < C.k → w.cell? ⟨C.b2, y, none⟩ = some (.slice none 0 0)) := ⟨hrows⟩
  have HG : Hid (GraphAt w0 gb C.n C.k bi ck gm accs) := ⟨hG⟩
  clear hexit hret e0 e4 e68 e69 e70 hbad hrows
  by_cases hlt : x < C.k
  case neg =>
    obtain rfl : x = C.k := by omega
    clear hlt hP hG
    go_wp2
    exact HX.out _ _ HB.out
  case pos =>
    obtain ⟨s, bl, hs, hlook, hlist⟩ := hG.item x hlt
    obtain ⟨an, cn, m3, m4, hrow⟩ := hG.row
    have hml := hG.len x
    have Hnodes : Hid (∀ y ∈ accs.getD x [], y.1 < C.n) := ⟨hG.nodes x⟩
    have hix := run_ix 52 9 bi C.k ck x hlt Try.underlying52 Try.cell9
    have hs' : w.cell? ⟨bi, x, none⟩ = some (.string s) := (World.cell?_of_block (hP.bel.block _ hG.bil)).trans hs
    have hS0 := S2.begin hP
    have hbel3 := hS0.P.bel
    have hlook' := hlook (((w.alloc (.map #[] 0)).alloc (.map #[] 0)).alloc (.map #[] 0)) (hbel3.block _ hG.gml)
    have kg : (((w.alloc (.map #[] 0)).alloc (.map #[] 0)).alloc (.map #[] 0)).cell? ⟨gb, 2, none⟩ = some (.map (some gm)) := by
      rw [cell_of_row _ gb 2 _ _ _ ((hbel3.block _ (row_lt hrow)).trans hrow)]
      rfl
    obtain ⟨acc, hacc⟩ : ∃ acc, acc = accs.getD x [] := ⟨_, rfl⟩
    rw [← hacc] at hlist hlook' hml Hnodes
    have HA : Hid (acc = accs.getD x []) := ⟨hacc⟩
    clear hacc
    have hrx : RowsX C x 0 (((w.alloc (.map #[] 0)).alloc (.map #[] 0)).alloc (.map #[] 0)) (((w.alloc (.map #[] 0)).alloc (.map #[] 0)).alloc (.map #[] 0)) := ⟨fun _ _ => rfl, .slice none 0 0, by
      rw [show (((w.alloc (.map #[] 0)).alloc (.map #[] 0)).alloc (.map #[] 0)).cell? ⟨C.b2, x, none⟩ = w.cell? ⟨C.b2, x, none⟩ from (World.cell?_of_block (Below.heap_alloc _ _ _ (by simp; have := hP.ht.lt hP.t2; omega))).trans ((World.cell?_of_block (Below.heap_alloc _ _ _ (by simp; have := hP.ht.lt hP.t2; omega))).trans (World.cell?_of_block (Below.heap_alloc _ _ _ (hP.ht.lt hP.t2))))]
      exact HRo.out x (Nat.le_refl _) hlt, Nat.le_refl _⟩
    have HRo3 : Hid (∀ y, x ≤ y → y < C.k → (((w.alloc (.map #[] 0)).alloc (.map #[] 0)).alloc (.map #[] 0)).cell? ⟨C.b2, y, none⟩ = some (.slice none 0 0)) := ⟨fun y h1 h2 => by
      rw [show (((w.alloc (.map #[] 0)).alloc (.map #[] 0)).alloc (.map #[] 0)).cell? ⟨C.b2, y, none⟩ = w.cell? ⟨C.b2, y, none⟩ from (World.cell?_of_block (Below.heap_alloc _ _ _ (by simp; have := hP.ht.lt hP.t2; omega))).trans ((World.cell?_of_block (Below.heap_alloc _ _ _ (by simp; have := hP.ht.lt hP.t2; omega))).trans (World.cell?_of_block (Below.heap_alloc _ _ _ (hP.ht.lt hP.t2))))]
      exact HRo.out y h1 h2⟩
    have HS0 : Hid (S2 C w0 w.heap.size (w.heap.size + 1) (w.heap.size + 2) v4 v5 (((w.alloc (.map #[] 0)).alloc (.map #[] 0)).alloc (.map #[] 0)) τ L (.slice none 0 0) 0 (fun _ => none) (fun _ => none) (fun _ => none)) := ⟨hS0⟩
    have HRX : Hid (RowsX C x 0 (((w.alloc (.map #[] 0)).alloc (.map #[] 0)).alloc (.map #[] 0)) (((w.alloc (.map #[] 0)).alloc (.map #[] 0)).alloc (.map #[] 0))) := ⟨hrx⟩
    have HL : Hid (ListAt w0 bl acc) := ⟨hlist⟩
    clear hS0 hbel3 hs hlook hrow hG hrx hlist HRo HP hP
    have hmm := @run_makeMap Try.prog
    go_wp2_with (at_lookup; go_must (refine wpList_look_run _ rfl 76 _ _ false rfl _ _ _ rfl rfl hlook' ?_))
    obtain ⟨y0, hy0⟩ : ∃ y0 : World, y0 = ((w.alloc (.map #[] 0)).alloc (.map #[] 0)).alloc (.map #[] 0) := ⟨_, rfl⟩
    rw [← hy0] at HS0 HRX HRo3 ⊢
    obtain ⟨bm1, hb1⟩ : ∃ bm1, bm1 = w.heap.size := ⟨_, rfl⟩
    rw [← hb1] at HS0 ⊢
    clear hlook' kg hs' hix hy0 hmm hb1
    refine loop2 C w0 y0 bm1 (bm1 + 1) (bm1 + 2) bl acc x L v4 v5 (.pointer (some ⟨gb, 0, none⟩)) (u 16) (.slice (some ⟨bi, 0, none⟩) C.k ck) (.int .i64 (C.k : Int)) (.int .i64 (x : Int)) (by omega) hml hn hlt Hnodes.out HL.out _ _ ?_ _ ?_ ?_
    · exact ⟨0, τ, L, .slice none 0 0, 0, _, _, _, ⟨rfl, rfl, rfl, rfl, rfl, rfl, rfl, rfl, rfl, rfl, rfl, rfl, rfl⟩, rfl, rfl, rfl, rfl, Nat.zero_le _, HS0.out, Sem2.start acc, by omega, Nat.le_refl _, Nat.le_refl _, HRX.out⟩
    · intro a' w' τ' L' rv cm F1 F2 F3 hF' hS' hsem hL' hcm hrv hrows'
      obtain ⟨adr, lr, cr, rfl, _⟩ := hS'.rv.form
      have hrv' : lr ≤ acc.length := hrv
      clear hrv
      have HF' : Hid (Fr a' (.pointer (some ⟨gb, 0, none⟩)) (.pointer (some ⟨C.pb, 0, none⟩)) (.int .i64 (x : Int)) (.map (some bm1)) (.slice adr lr cr) (.map (some (bm1 + 1))) (.int .i64 (lastW acc)) (u 16) (.slice (some ⟨bi, 0, none⟩) C.k ck) (.int .i64 (C.k : Int)) (.int .i64 (x : Int))) := ⟨hF'⟩
      have HNB : Hid (¬ Bad acc) := ⟨hsem.clean.not_bad⟩
      have HS' : Hid (S2 C w0 bm1 (bm1 + 1) (bm1 + 2) v4 v5 w' τ' L' (.slice adr lr cr) cm F1 F2 F3) := ⟨hS'⟩
      have HRW : Hid (RowsX C x acc.length y0 w') := ⟨hrows'⟩
      clear hF' hS' hsem hrows' HS0 HRX
      obtain ⟨u', rfl, hu⟩ := frame_any a' HF'.out.sz HF'.out.df
      have e8 := (hu 8).trans HF'.out.g8
      clear hu
      rw [e8]
      clear e8
      have hmm := @run_makeMap Try.prog
      go_wp2
      have HS3 := S3.begin HS'.out
      obtain ⟨y1, hy1⟩ : ∃ y1 : World, y1 = (w'.alloc (.map #[] 0)).alloc (.cells #[.map (some w'.heap.size)] 50) := ⟨_, rfl⟩
      rw [← hy1] at HS3 ⊢
      obtain ⟨bm4, hb4⟩ : ∃ bm4, bm4 = w'.heap.size := ⟨_, rfl⟩
      rw [← hb4] at HS3 ⊢
      clear hy1 hb4
      refine loop3 C w0 w'.heap[C.b2]? bm1 cm F1 (bm1 + 1) cm F2 bm4 (bm4 + 1) (.slice adr lr cr) L' (.pointer (some ⟨gb, 0, none⟩)) (.int .i64 (x : Int)) (.slice adr lr cr) (.int .i64 (lastW acc)) (.slice (some ⟨bi, 0, none⟩) C.k ck) (.int .i64 (C.k : Int)) (.int .i64 (x : Int)) (by show L' + 5 * lr + 5 < _; omega) hn _ _ ?_ _ ?_ ?_
      · exact ⟨0, τ', L', v4, v5, 0, _, ⟨rfl, rfl, HF'.out.g0, HF'.out.g4, HF'.out.g5, HF'.out.g7, rfl, HF'.out.g9, HF'.out.g11, rfl, HF'.out.g68, HF'.out.g69, HF'.out.g70⟩, rfl, rfl, rfl, Nat.zero_le _, HS3, h45, by omega, Nat.le_refl _, fun h => absurd h (Nat.lt_irrefl _)⟩
      · intro a2 w2 τ2 L2 v42 v52 cm4 F4 hF2 hS2 h452 hL2 hN2
        have hL2' : L2 ≤ L' + 5 * lr := hL2
        have HN2 : Hid (0 < lenV (.slice adr lr cr) → 0 < lenV v52) := ⟨hN2⟩
        have HF2 : Hid (Fr a2 (.pointer (some ⟨gb, 0, none⟩)) (.pointer (some ⟨C.pb, 0, none⟩)) (.int .i64 (x : Int)) (.map (some bm1)) (.slice adr lr cr) (.map (some (bm1 + 1))) (.int .i64 (lastW acc)) (.pointer (some ⟨bm4 + 1, 0, none⟩)) (.slice (some ⟨bi, 0, none⟩) C.k ck) (.int .i64 (C.k : Int)) (.int .i64 (x : Int))) := ⟨hF2⟩
        have HS2 : Hid (S3 C w0 w'.heap[C.b2]? bm1 cm F1 (bm1 + 1) cm F2 bm4 (bm4 + 1) (.slice adr lr cr) w2 τ2 L2 v42 v52 cm4 F4 (lenV v52)) := ⟨hS2⟩
        have H45 : Hid (lenV v42 = lenV v52) := ⟨h452⟩
        clear hL2 hN2 hF2 hS2 h452 HS3 HF' h45
        obtain ⟨u2, rfl, hu⟩ := frame_any a2 HF2.out.sz HF2.out.df
        have e8 := (hu 8).trans HF2.out.g8
        clear hu
        rw [e8]
        clear e8
        go_wp2
        refine loop4 C w0 w2 τ2 L2 v42 v52 (.slice adr lr cr) bm1 cm bm4 cm4 (bm4 + 1) F1 F4 (.pointer (some ⟨gb, 0, none⟩)) (.int .i64 (x : Int)) (.slice adr lr cr) (.map (some (bm1 + 1))) (.int .i64 (lastW acc)) (.slice (some ⟨bi, 0, none⟩) C.k ck) (.int .i64 (C.k : Int)) (.int .i64 (x : Int)) HS2.out.P HS2.out.rv HS2.out.m1 HS2.out.m4 HN2.out HS2.out.bcr HS2.out.nbc (by show L2 + lr < _; omega) hn _ ?_ rfl rfl rfl _ ?_
        · exact ⟨rfl, rfl, HF2.out.g0, HF2.out.g4, HF2.out.g5, HF2.out.g7, rfl, HF2.out.g9, HF2.out.g11, HF2.out.g16, HF2.out.g68, HF2.out.g69, HF2.out.g70⟩
        · intro a3 w3 τ3 hF3 hst3 hht3 hk3
          have HF3 : Hid (Fr a3 (.pointer (some ⟨gb, 0, none⟩)) (.pointer (some ⟨C.pb, 0, none⟩)) (.int .i64 (x : Int)) (.map (some bm1)) (.slice adr lr cr) (.map (some (bm1 + 1))) (.int .i64 (lastW acc)) (.pointer (some ⟨bm4 + 1, 0, none⟩)) (.slice (some ⟨bi, 0, none⟩) C.k ck) (.int .i64 (C.k : Int)) (.int .i64 (x : Int))) := ⟨hF3⟩
          have HS3 : Hid (S3 C w0 w'.heap[C.b2]? bm1 cm F1 (bm1 + 1) cm F2 bm4 (bm4 + 1) (.slice adr lr cr) w3 τ3 (L2 + lr) v42 v52 cm4 F4 (lenV v52)) := ⟨HS2.out.step hst3 hk3 (HS2.out.P.step hst3 hht3 (Nat.le_add_right _ _)) (Nat.le_add_right _ _)⟩
          clear hF3 hst3 hht3 hk3 HS2 HF2
          obtain ⟨u3, rfl, hu⟩ := frame_any a3 HF3.out.sz HF3.out.df
          have e16 := (hu 16).trans HF3.out.g16
          have e4 := (hu 4).trans HF3.out.g4
          have e5 := (hu 5).trans HF3.out.g5
          clear hu
          rw [e16, e4, e5]
          clear e16 e4 e5
          go_upto_region 59 with (fail)
          refine reg59 C w0 w3 τ3 (L2 + lr) v42 v52 HS3.out.P (bm4 + 1) bm4 cm4 F4 0 (lenV v52) HS3.out.m4 HS3.out.bcr _ rfl rfl x hlt rfl rfl _ ?_
          intro a4 w4 hsz hdf hout hP4 hst4 hk4
          have HF4 : Hid (Fr a4 (.pointer (some ⟨gb, 0, none⟩)) (.pointer (some ⟨C.pb, 0, none⟩)) (.int .i64 (x : Int)) (.map (some bm1)) (.slice adr lr cr) (.map (some (bm1 + 1))) (.int .i64 (lastW acc)) (.pointer (some ⟨bm4 + 1, 0, none⟩)) (.slice (some ⟨bi, 0, none⟩) C.k ck) (.int .i64 (C.k : Int)) (.int .i64 (x : Int))) := ⟨hsz, hdf, (hout 0 (by decide)).trans HF3.out.g0, hout 4 (by decide), hout 5 (by decide), (hout 7 (by decide)).trans HF3.out.g7, (hout 8 (by decide)).trans HF3.out.g8, (hout 9 (by decide)).trans HF3.out.g9, (hout 11 (by decide)).trans HF3.out.g11, hout 16 (by decide), (hout 68 (by decide)).trans HF3.out.g68, (hout 69 (by decide)).trans HF3.out.g69, (hout 70 (by decide)).trans HF3.out.g70⟩
          have f24 : G a4 24 = .func (.func 43) #[] #[.pointer (some ⟨bm4 + 1, 0, none⟩)] := hout 24 (by decide)
          have HS4 : Hid (S3 C w0 w'.heap[C.b2]? bm1 cm F1 (bm1 + 1) cm F2 bm4 (bm4 + 1) (.slice adr lr cr) w4 τ3 (L2 + lr) v42 v52 cm4 F4 (lenV v52)) := ⟨HS3.out.step hst4 hk4 hP4 (Nat.le_refl _)⟩
          clear hsz hdf hout hP4 hst4 hk4 HS3 HF3
          obtain ⟨wv, hwv, hokw, _⟩ := HS4.out.P.ht.cell HS4.out.P.t2 rfl (i := x) hlt
          have hwl : lenV wv ≤ acc.length := by
            obtain ⟨row, hr, hl⟩ := HRW.out.row
            rw [World.cell?_of_block HS4.out.row2, hr] at hwv
            cases hwv
            exact hl
          have hokw' : SlTo τ3 (L2 + lr) 1 wv := hokw
          obtain ⟨adw, lw, cw, rfl, _⟩ := hokw'.form
          have hwl' : lw ≤ acc.length := hwl
          have HW : Hid (SlTo τ3 (L2 + lr) 1 (.slice adw lw cw)) := ⟨hokw'⟩
          have kp : w4.cell? ⟨C.pb, 2, none⟩ = some (.slice (some ⟨C.b2, 0, none⟩) C.k C.k) := HS4.out.P.cell 2
          have hix2 := run_ix 37 22 C.b2 C.k C.k x hlt Try.underlying37 Try.cell22
          clear hokw hwl hokw'
          obtain ⟨u4, rfl, hu⟩ := frame_any a4 HF4.out.sz HF4.out.df
          have e4 := (hu 4).trans HF4.out.g4
          have e5 := (hu 5).trans HF4.out.g5
          have e24 := (hu 24).trans f24
          clear hu f24
          rw [e4, e5, e24]
          clear e4 e5 e24
          go_wp2
          refine loop5 C w0 w4 τ3 (L2 + lr) v42 v52 (.slice adw lw cw) bm4 cm4 (bm4 + 1) x (lastW acc) 0 (lenV v52) F4 (.pointer (some ⟨gb, 0, none⟩)) (.map (some bm1)) (.slice adr lr cr) (.map (some (bm1 + 1))) (.slice (some ⟨bi, 0, none⟩) C.k ck) (.int .i64 (C.k : Int)) (.int .i64 (x : Int)) HS4.out.P HW.out HS4.out.m4 hlt HS4.out.bcr HS4.out.nbc (by show L2 + lr + 2 * lw < _; omega) hn _ ?_ rfl rfl rfl rfl _ ?_
          · exact ⟨rfl, rfl, HF4.out.g0, rfl, rfl, HF4.out.g7, HF4.out.g8, HF4.out.g9, HF4.out.g11, HF4.out.g16, HF4.out.g68, HF4.out.g69, HF4.out.g70⟩
          · intro a5 w5 τ5 hF5 hst5 hht5 hk5
            have HF5 : Hid (Fr a5 (.pointer (some ⟨gb, 0, none⟩)) (.pointer (some ⟨C.pb, 0, none⟩)) (.int .i64 (x : Int)) (.map (some bm1)) (.slice adr lr cr) (.map (some (bm1 + 1))) (.int .i64 (lastW acc)) (.pointer (some ⟨bm4 + 1, 0, none⟩)) (.slice (some ⟨bi, 0, none⟩) C.k ck) (.int .i64 (C.k : Int)) (.int .i64 (x : Int))) := ⟨hF5⟩
            have HP5 : Hid (PSt C w0 w5 τ5 (L2 + lr + 2 * lw) v42 v52) := ⟨HS4.out.P.step hst5 hht5 (Nat.le_add_right _ _)⟩
            have HRo5 : Hid (∀ y, x + 1 ≤ y → y < C.k → w5.cell? ⟨C.b2, y, none⟩ = some (.slice none 0 0)) := ⟨fun y h1 h2 => by
              rw [World.cell?_of_block (hk5 _ _ HS4.out.P.t2 (HS4.out.P.ht.lt HS4.out.P.t2)), World.cell?_of_block HS4.out.row2, HRW.out.other y (by omega)]
              exact HRo3.out y (by omega) h2⟩
            clear hF5 hst5 hht5 hk5 HS4 HF4 HW kp hix2 hwv
            obtain ⟨u5, rfl, hu⟩ := frame_any a5 HF5.out.sz HF5.out.df
            have e70 := (hu 70).trans HF5.out.g70
            clear hu
            rw [e70]
            clear e70
            go_wp2
            refine ⟨⟨x + 1, τ5, L2 + lr + 2 * lw, v42, v52, _, _, _, _, _, _, ⟨rfl, rfl, HF5.out.g0, HF5.out.g4, rfl, rfl, rfl, rfl, rfl, rfl, HF5.out.g68, HF5.out.g69, (by show Value.int .i64 ((x : Int) + 1) = _; simp)⟩, hlt, HP5.out, H45.out, by omega, HRo5.out, fun i hi => ?_⟩, ?_⟩
            · by_cases e : i = x
              · rw [e, ← HA.out]
                exact HNB.out
              · exact HB.out i (by omega)
            · show C.k - (intOf (Value.int .i64 ((x : Int) + 1))).toNat < C.k - (intOf (Value.int .i64 (x : Int))).toNat
              simp [intOf]
              omega
      · intro a' w' h1 h2 h3 h4 h5
        exact HR.out a' w' h1 h2 h3 h4 h5
    · intro a' w' h1 h2 h3 h4 h5
      exact HR.out a' w' h1 h2 h3 h4 h5
end Go.Proofs.Qxb6001364a
