import Derived.Test.Qxb6001364aPc
import Derived.Deep.Cut
namespace Go.Proofs.Qxb6001364a
open Go.ChangeShapes Go.WideShapes Go.ChangeAt Go.RowKit Go.Maps

def Inv16D (wD : World) (bn bw base k : Nat) (hs : Hist) (c0 c1 c2 c3 c4 c12 c14 c15 c19 c20 : Value) (a : Act) (w : World) : Prop :=
  ∃ (x : Nat), Fr16 a c0 c1 c2 c3 c4 c12 c14 c15 c19 c20 ∧ G a 21 = .int .i64 (x : Int) ∧ x ≤ k ∧ RowsAt wD w bn bw base k (fun y => (accOf hs y).length) (fun _ => []) (fun _ => []) x ∧ w.heap.size = base + 2 * x

set_option maxHeartbeats 4000000 in
set_option maxRecDepth 100000 in
theorem loop16D (wD : World) (bC bn bw base k : Nat) (hs : Hist) (c0 c1 c2 c3 c12 c14 : Value) (hm : hs.length ≤ 65536) (hk : k ≤ 65536) (hbn : bn < base) (hbw : bw < base) (hnw : bn ≠ bw) (hCn : bC ≠ bn) (hCw : bC ≠ bw) (hCb : bC < base) (Ac : Array Value) (hAc : wD.heap[bC]? = some (.cells Ac 3 (0, 0))) (hcnt : Counted Ac hs k hs.length)
    (a0 : Act) (wS : World) (hI : Inv16D wD bn bw base k hs c0 c1 c2 c3 (.int .i64 (k : Int)) c12 c14 (.slice (some ⟨bC, 0, none⟩) k k) (.slice (some ⟨bn, 0, none⟩) k k) (.slice (some ⟨bw, 0, none⟩) k k) a0 wS) (Q : Exit → Act → World → Prop)
    (hexit : ∀ a' w', Fr16 a' c0 c1 c2 c3 (.int .i64 (k : Int)) c12 c14 (.slice (some ⟨bC, 0, none⟩) k k) (.slice (some ⟨bn, 0, none⟩) k k) (.slice (some ⟨bw, 0, none⟩) k k) → RowsAt wD w' bn bw base k (fun y => (accOf hs y).length) (fun _ => []) (fun _ => []) k → Q (.exit 6) a' w') :
    Code.wp Try.prog (Code.loop (bodyOf Try.f16 3)) Q a0 wS := by
  refine wp_loop (Inv16D wD bn bw base k hs c0 c1 c2 c3 (.int .i64 (k : Int)) c12 c14 (.slice (some ⟨bC, 0, none⟩) k k) (.slice (some ⟨bn, 0, none⟩) k k) (.slice (some ⟨bw, 0, none⟩) k k)) (fun a _ => k - (intOf (G a 21)).toNat) hI ?_
  clear hI a0 wS
  rintro a w ⟨x, hF, f21, hx, hR, hsz⟩
  obtain ⟨u, rfl, hu⟩ := frame131 a hF.sz hF.df
  have e4 := (hu 4).trans hF.g4
  have e15 := (hu 15).trans hF.g15
  have e19 := (hu 19).trans hF.g19
  have e20 := (hu 20).trans hF.g20
  have e21 := (hu 21).trans f21
  have HF : Hid (Fr16 _ c0 c1 c2 c3 (.int .i64 (k : Int)) c12 c14 (.slice (some ⟨bC, 0, none⟩) k k) (.slice (some ⟨bn, 0, none⟩) k k) (.slice (some ⟨bw, 0, none⟩) k k)) := ⟨hF⟩
  clear hu hF
  rw [f21]
  clear f21
  conv => arg 2; whnf
  rw [e4, e15, e19, e20, e21]
  clear e4 e15 e19 e20 e21
  have HX : Hid (∀ a' w', Fr16 a' c0 c1 c2 c3 (.int .i64 (k : Int)) c12 c14 (.slice (some ⟨bC, 0, none⟩) k k) (.slice (some ⟨bn, 0, none⟩) k k) (.slice (some ⟨bw, 0, none⟩) k k) → RowsAt wD w' bn bw base k (fun y => (accOf hs y).length) (fun _ => []) (fun _ => []) k → Q (.exit 6) a' w') := ⟨hexit⟩
  have HR : Hid (RowsAt wD w bn bw base k (fun y => (accOf hs y).length) (fun _ => []) (fun _ => []) x) := ⟨hR⟩
  clear hexit
  by_cases hlt : x < k
  case neg =>
    obtain rfl : x = k := by omega
    clear hlt hR hAc hcnt
    go_wp2
    exact HX.out _ _ ⟨rfl, rfl, HF.out.g0, HF.out.g1, HF.out.g2, HF.out.g3, rfl, HF.out.g12, HF.out.g14, rfl, rfl, rfl⟩ HR.out
  case pos =>
    obtain ⟨c, hc⟩ : ∃ c, c = (accOf hs x).length := ⟨_, rfl⟩
    have hc6 : c ≤ 65536 := by
      have := accOf_len hs x
      omega
    obtain ⟨M, hM, hmk⟩ := make_cap 22 3 (.int .i64 0) 8 Try.underlying22 Try.info3 c (by omega) hc6
    obtain ⟨M', hM', hmk'⟩ := make_cap 23 4 (.bool false) 1 Try.underlying23 Try.info4 c (by omega) hc6
    have hAcx : Ac[x]? = some (.int .i64 (c : Int)) := by
      have := hcnt x hlt
      rw [List.take_length, ← hc] at this
      exact this
    have hCw0 : w.heap[bC]? = some (.cells Ac 3 (0, 0)) := (hR.kept bC hCb hCn hCw).trans hAc
    have kc : w.cell? ⟨bC, x, none⟩ = some (.int .i64 (c : Int)) := (cell_of_row w bC x _ _ _ hCw0).trans hAcx
    have hix := run_ix 22 3 bC k k x hlt Try.underlying22 Try.cell3
    have hixN := run_ix 37 22 bn k k x hlt Try.underlying37 Try.cell22
    have hixW := run_ix 54 23 bw k k x hlt Try.underlying54 Try.cell23
    obtain ⟨An, q1, q2, _⟩ := hR.an
    obtain ⟨Aw, p1, p2, _⟩ := hR.aw
    obtain ⟨on, _, kn1, kn2⟩ := row_cell (w := w.alloc (.cells M 3)) ((Below.heap_alloc w _ bn (row_lt q1)).trans q1) (i := x) (by omega)
    have hmake := HR.out.make hbn hbw hnw hsz hlt rfl rfl (hM.trans hc) (hM'.trans hc)
    simp only [← hc] at hmake
    have HMK : Hid _ := ⟨hmake⟩
    clear hmake hR hcnt hAcx hc hsz
    go_upto_region 23 with (fail)
    obtain ⟨x2, hx2⟩ : ∃ x2 : World, x2 = (w.alloc (.cells M 3)).setCell ⟨bn, x, none⟩ (.slice (some ⟨w.heap.size, 0, none⟩) 0 c) := ⟨_, rfl⟩
    have s2 : x2.heap.size = w.heap.size + 1 := by rw [hx2]; simp
    have kc2 : x2.cell? ⟨bC, x, none⟩ = some (.int .i64 (c : Int)) := by
      rw [hx2, World.cell?_of_block ((heap_setCell_other _ _ _ _ hCn).trans (Below.heap_alloc w _ bC (row_lt hCw0)))]
      exact kc
    obtain ⟨ow, _, kw1, kw2⟩ := row_cell (w := x2.alloc (.cells M' 4)) ((Below.heap_alloc x2 _ bw (by have := row_lt p1; omega)).trans (by rw [hx2]; exact (heap_setCell_other _ _ _ _ (Ne.symm hnw)).trans ((Below.heap_alloc w _ bw (row_lt p1)).trans p1))) (i := x) (by omega)
    have HX2 : Hid (x2 = (w.alloc (.cells M 3)).setCell ⟨bn, x, none⟩ (.slice (some ⟨w.heap.size, 0, none⟩) 0 c)) := ⟨hx2⟩
    have HS2 : Hid (x2.heap.size = w.heap.size + 1) := ⟨s2⟩
    rw [← hx2]
    clear hx2 kn1 kn2 kc hmk s2 q1 p1 q2 p2 hCw0 hAc
    go_wp2
    refine ⟨⟨x + 1, ⟨rfl, rfl, HF.out.g0, HF.out.g1, HF.out.g2, HF.out.g3, rfl, HF.out.g12, HF.out.g14, rfl, rfl, rfl⟩, (by show Value.int .i64 ((x : Int) + 1) = _; simp), hlt, ?_, ?_⟩, ?_⟩
    · rw [HS2.out, HX2.out]
      exact HMK.out.1
    · rw [HS2.out, HX2.out]
      exact HMK.out.2
    · show k - (intOf (Value.int .i64 ((x : Int) + 1))).toNat < k - (intOf (Value.int .i64 (x : Int))).toNat
      simp [intOf]
      omega

def Inv16E (wD : World) (bn bw base k : Nat) (hs : Hist) (v90 : Value) (c0 c1 c2 c3 c4 c12 c14 c15 c19 c20 : Value) (a : Act) (w : World) : Prop :=
  ∃ (i : Nat), Fr16 a c0 c1 c2 c3 c4 c12 c14 c15 c19 c20 ∧ G a 90 = v90 ∧ G a 91 = .int .i64 (hs.length : Nat) ∧ G a 92 = .int .i64 (i : Int) ∧ i ≤ hs.length ∧ RowsAt wD w bn bw base k (fun y => (accOf hs y).length) (fun y => accOf (hs.take i) y) (fun y => accOf (hs.take i) y) k

theorem updL_take {hs : Hist} {i : Nat} {e : Nat × Bool × Nat} (he : hs[i]? = some e) : updL (fun y => accOf (hs.take i) y) e.2.2 (e.1, e.2.1) = (fun y => accOf (hs.take (i + 1)) y) := by
  funext y
  rw [accOf_succ he]
  rfl

set_option maxHeartbeats 4000000 in
set_option maxRecDepth 100000 in
theorem loop16E (w0 wD : World) (bn bw base k d1 d2 d3 : Nat) (a1 a2 a3 : Option Addr) (hs : Hist) (c0 c12 c14 c15 : Value) (hH : HIn w0 a1 a2 a3 hs) (hb0 : Below w0.heap.size w0 wD) (hm : hs.length ≤ 65536) (hbn : bn < base) (hbw : bw < base) (hnw : bn ≠ bw) (hln : w0.heap.size ≤ bn) (hlw : w0.heap.size ≤ bw) (hlb : wD.heap.size ≤ base) (hit : ∀ e ∈ hs, e.2.2 < k)
    (a0 : Act) (wS : World) (hI : Inv16E wD bn bw base k hs (.slice a3 hs.length d3) c0 (.slice a1 hs.length d1) (.slice a2 hs.length d2) (.slice a3 hs.length d3) (.int .i64 (k : Int)) c12 c14 c15 (.slice (some ⟨bn, 0, none⟩) k k) (.slice (some ⟨bw, 0, none⟩) k k) a0 wS) (Q : Exit → Act → World → Prop)
    (hexit : ∀ a' w', Fr16 a' c0 (.slice a1 hs.length d1) (.slice a2 hs.length d2) (.slice a3 hs.length d3) (.int .i64 (k : Int)) c12 c14 c15 (.slice (some ⟨bn, 0, none⟩) k k) (.slice (some ⟨bw, 0, none⟩) k k) → RowsAt wD w' bn bw base k (fun y => (accOf hs y).length) (fun y => accOf hs y) (fun y => accOf hs y) k → Q (.exit 8) a' w') :
    Code.wp Try.prog (Code.loop (bodyOf Try.f16 4)) Q a0 wS := by
  refine wp_loop (Inv16E wD bn bw base k hs (.slice a3 hs.length d3) c0 (.slice a1 hs.length d1) (.slice a2 hs.length d2) (.slice a3 hs.length d3) (.int .i64 (k : Int)) c12 c14 c15 (.slice (some ⟨bn, 0, none⟩) k k) (.slice (some ⟨bw, 0, none⟩) k k)) (fun a _ => hs.length - (intOf (G a 92)).toNat) hI ?_
  clear hI a0 wS
  rintro a w ⟨i, hF, f90, f91, f92, hi, hR⟩
  obtain ⟨u, rfl, hu⟩ := frame131 a hF.sz hF.df
  have e1 := (hu 1).trans hF.g1
  have e2 := (hu 2).trans hF.g2
  have e19 := (hu 19).trans hF.g19
  have e20 := (hu 20).trans hF.g20
  have e90 := (hu 90).trans f90
  have e91 := (hu 91).trans f91
  have e92 := (hu 92).trans f92
  have HF : Hid (Fr16 _ c0 (.slice a1 hs.length d1) (.slice a2 hs.length d2) (.slice a3 hs.length d3) (.int .i64 (k : Int)) c12 c14 c15 (.slice (some ⟨bn, 0, none⟩) k k) (.slice (some ⟨bw, 0, none⟩) k k)) := ⟨hF⟩
  clear hu hF f90 f91
  rw [f92]
  clear f92
  conv => arg 2; whnf
  rw [e1, e2, e19, e20, e90, e91, e92]
  clear e1 e2 e19 e20 e90 e91 e92
  have HX : Hid (∀ a' w', Fr16 a' c0 (.slice a1 hs.length d1) (.slice a2 hs.length d2) (.slice a3 hs.length d3) (.int .i64 (k : Int)) c12 c14 c15 (.slice (some ⟨bn, 0, none⟩) k k) (.slice (some ⟨bw, 0, none⟩) k k) → RowsAt wD w' bn bw base k (fun y => (accOf hs y).length) (fun y => accOf hs y) (fun y => accOf hs y) k → Q (.exit 8) a' w') := ⟨hexit⟩
  have HR : Hid (RowsAt wD w bn bw base k (fun y => (accOf hs y).length) (fun y => accOf (hs.take i) y) (fun y => accOf (hs.take i) y) k) := ⟨hR⟩
  clear hexit
  by_cases hlt : i < hs.length
  case neg =>
    obtain rfl : i = hs.length := by omega
    clear hlt hR hH hit
    go_wp2
    refine HX.out _ _ ⟨rfl, rfl, HF.out.g0, rfl, rfl, HF.out.g3, HF.out.g4, HF.out.g12, HF.out.g14, HF.out.g15, rfl, rfl⟩ ?_
    have := HR.out
    rw [List.take_length] at this
    exact this
  case pos =>
    obtain ⟨e, he⟩ : ∃ e, hs[i]? = some e := ⟨hs[i], by simp [hlt]⟩
    have hxk : e.2.2 < k := hit e (List.mem_of_getElem? he)
    have hb1 : Below w0.heap.size w0 w := hR.below hb0 hln hlw (by omega) hlb
    have hH1 := hH.below hb1
    obtain ⟨b3, o3, ix3, hc3⟩ := hH1.item he d3
    obtain ⟨b1, o1, ix1, hc1⟩ := hH1.node he d1
    have hll : (accOf (hs.take i) e.2.2).length < (accOf hs e.2.2).length := by
      have h1 := accOf_take_le hs (i + 1) e.2.2
      rw [accOf_succ he, if_pos rfl, List.length_append] at h1
      simp at h1
      omega
    obtain ⟨An, q1, q2, q3⟩ := hR.an
    obtain ⟨A, r1, r2, _⟩ := hR.nod e.2.2 hxk
    have HE : Hid (hs[i]? = some e) := ⟨he⟩
    have HH : Hid (HIn w0 a1 a2 a3 hs) := ⟨hH⟩
    have HB1 : Hid (Below w0.heap.size w0 w) := ⟨hb1⟩
    have HQ : Hid (w.heap[bn]? = some (.cells An 22 (0, 0)) ∧ An[e.2.2]? = some (.slice (some ⟨base + 2 * e.2.2, 0, none⟩) (accOf (hs.take i) e.2.2).length (accOf hs e.2.2).length)) := ⟨q1, q3 _ hxk⟩
    have HA : Hid (w.heap[base + 2 * e.2.2]? = some (.cells A 3 (0, 0)) ∧ A.size = (accOf hs e.2.2).length) := ⟨r1, r2⟩
    have HC1 : Hid ((∀ W, (Instr.indexAt 22 (.slice a1 hs.length d1) (.int .i64 (i : Int))).run Try.prog W = .ok (.pointer (some ⟨b1, o1, none⟩)) W) ∧ w.cell? ⟨b1, o1, none⟩ = some (.int .i64 (e.1 : Int))) := ⟨ix1, hc1⟩
    have HLL : Hid ((accOf (hs.take i) e.2.2).length < (accOf hs e.2.2).length) := ⟨hll⟩
    clear he hH hit hR hb1 hH1 q1 q2 q3 r1 r2 ix1 hc1 hll
    go_upto_region 27 with (fail)
    refine reg16_27 w bn k k e.2.2 (base + 2 * e.2.2) _ _ hs.length d1 i b1 o1 a1 _ A An HA.out.1 HQ.out.1 HA.out.2 hxk HQ.out.2 HLL.out HC1.out.1 HC1.out.2 _ rfl rfl rfl rfl rfl _ ?_
    intro a' x2 hsz hdf hout hap
    have HF2 : Hid (Fr16 a' c0 (.slice a1 hs.length d1) (.slice a2 hs.length d2) (.slice a3 hs.length d3) (.int .i64 (k : Int)) c12 c14 c15 (.slice (some ⟨bn, 0, none⟩) k k) (.slice (some ⟨bw, 0, none⟩) k k)) := ⟨hsz, hdf, (hout 0 (by decide)).trans HF.out.g0, hout 1 (by decide), hout 2 (by decide), (hout 3 (by decide)).trans HF.out.g3, (hout 4 (by decide)).trans HF.out.g4, (hout 12 (by decide)).trans HF.out.g12, (hout 14 (by decide)).trans HF.out.g14, (hout 15 (by decide)).trans HF.out.g15, hout 19 (by decide), hout 20 (by decide)⟩
    have f22 : G a' 22 = .int .i64 (i : Int) := hout 22 (by decide)
    have f23 : G a' 23 = .int .i64 (e.2.2 : Int) := hout 23 (by decide)
    have f90 : G a' 90 = (.slice a3 hs.length d3) := hout 90 (by decide)
    have f91 : G a' 91 = .int .i64 (hs.length : Nat) := hout 91 (by decide)
    have f92 : G a' 92 = .int .i64 (i : Int) := hout 92 (by decide)
    have hR2 := HR.out.appN hbn hbw hnw hxk (e.1, e.2.1) HLL.out HA.out.1 HQ.out.1 hap
    rw [updL_take HE.out] at hR2
    have HR2 : Hid (RowsAt wD x2 bn bw base k (fun y => (accOf hs y).length) (fun y => accOf (hs.take (i + 1)) y) (fun y => accOf (hs.take i) y) k) := ⟨hR2⟩
    have hb2 : Below w0.heap.size w0 x2 := hR2.below hb0 hln hlw (by omega) hlb
    obtain ⟨b2, o2, ix2, hc2⟩ := (HH.out.below hb2).writ HE.out d2
    obtain ⟨Aw, q1, q2, q3⟩ := hR2.aw
    obtain ⟨A', r1, r2, _⟩ := hR2.wri e.2.2 hxk
    have HQ2 : Hid (x2.heap[bw]? = some (.cells Aw 23 (0, 0)) ∧ Aw[e.2.2]? = some (.slice (some ⟨base + 2 * e.2.2 + 1, 0, none⟩) (accOf (hs.take i) e.2.2).length (accOf hs e.2.2).length)) := ⟨q1, q3 _ hxk⟩
    have HA2 : Hid (x2.heap[base + 2 * e.2.2 + 1]? = some (.cells A' 4 (0, 0)) ∧ A'.size = (accOf hs e.2.2).length) := ⟨r1, r2⟩
    have HC2 : Hid ((∀ W, (Instr.indexAt 23 (.slice a2 hs.length d2) (.int .i64 (i : Int))).run Try.prog W = .ok (.pointer (some ⟨b2, o2, none⟩)) W) ∧ x2.cell? ⟨b2, o2, none⟩ = some (.bool e.2.1)) := ⟨ix2, hc2⟩
    clear hsz hdf hout hap hR2 hb2 ix2 hc2 q1 q2 q3 r1 r2 HR HA HQ HC1 HB1 HF ix3 hc3
    obtain ⟨u2, rfl, hu⟩ := frame131 a' HF2.out.sz HF2.out.df
    clear hu
    go_upto_region 28 with (fail)
    refine reg16_28 x2 bw k k e.2.2 (base + 2 * e.2.2 + 1) _ _ hs.length d2 i b2 o2 a2 _ A' Aw HA2.out.1 HQ2.out.1 HA2.out.2 hxk HQ2.out.2 HLL.out HC2.out.1 HC2.out.2 _ HF2.out.sz HF2.out.g20 f23 HF2.out.g2 f22 _ ?_
    intro a3' x3 hsz hdf hout hap
    have HF3 : Hid (Fr16 a3' c0 (.slice a1 hs.length d1) (.slice a2 hs.length d2) (.slice a3 hs.length d3) (.int .i64 (k : Int)) c12 c14 c15 (.slice (some ⟨bn, 0, none⟩) k k) (.slice (some ⟨bw, 0, none⟩) k k)) := ⟨hsz, hdf, (hout 0 (by decide)).trans HF2.out.g0, (hout 1 (by decide)).trans HF2.out.g1, (hout 2 (by decide)).trans HF2.out.g2, (hout 3 (by decide)).trans HF2.out.g3, (hout 4 (by decide)).trans HF2.out.g4, (hout 12 (by decide)).trans HF2.out.g12, (hout 14 (by decide)).trans HF2.out.g14, (hout 15 (by decide)).trans HF2.out.g15, (hout 19 (by decide)).trans HF2.out.g19, (hout 20 (by decide)).trans HF2.out.g20⟩
    have h90 : G a3' 90 = (.slice a3 hs.length d3) := (hout 90 (by decide)).trans f90
    have h91 : G a3' 91 = .int .i64 (hs.length : Nat) := (hout 91 (by decide)).trans f91
    have h92 : G a3' 92 = .int .i64 (i : Int) := (hout 92 (by decide)).trans f92
    have hR3 := HR2.out.appW hbn hbw hnw hxk (e.1, e.2.1) HLL.out HA2.out.1 HQ2.out.1 hap
    rw [updL_take HE.out] at hR3
    have HR3 : Hid (RowsAt wD x3 bn bw base k (fun y => (accOf hs y).length) (fun y => accOf (hs.take (i + 1)) y) (fun y => accOf (hs.take (i + 1)) y) k) := ⟨hR3⟩
    clear hsz hdf hout hap hR3 HR2 HA2 HQ2 HC2 HF2 f22 f23 f90 f91 f92
    obtain ⟨u3, rfl, hu⟩ := frame131 a3' HF3.out.sz HF3.out.df
    have e92 := (hu 92).trans h92
    clear hu h92
    rw [e92]
    clear e92
    go_wp2
    refine ⟨⟨i + 1, ⟨rfl, rfl, HF3.out.g0, HF3.out.g1, HF3.out.g2, HF3.out.g3, HF3.out.g4, HF3.out.g12, HF3.out.g14, HF3.out.g15, HF3.out.g19, HF3.out.g20⟩, h90, h91, (by show Value.int .i64 ((i : Int) + 1) = _; simp), hlt, HR3.out⟩, ?_⟩
    · show hs.length - (intOf (Value.int .i64 ((i : Int) + 1))).toNat < hs.length - (intOf (Value.int .i64 (i : Int))).toNat
      simp [intOf]
      omega

end Go.Proofs.Qxb6001364a
