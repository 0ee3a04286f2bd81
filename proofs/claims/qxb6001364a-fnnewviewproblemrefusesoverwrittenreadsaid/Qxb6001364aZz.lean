import Derived.Test.Qxb6001364aReg2
import Derived.Deep.Cut
namespace Go.Proofs.Qxb6001364a
open Go.ChangeShapes Go.WideShapes Go.ChangeAt Go.RowKit Go.Maps

set_option maxRecDepth 100000 in
theorem reg32_9 (x1 : World) (bl len lc bn k kn bw kw x i b c b' c' : Nat) (z : Int) (t : Bool) (A : Array Value) (hl : x1.heap[bl]? = some (.cells A 82 (0, 0))) (hA : A.size = len * 2) (hi : i < len) (hx : x < k)
    (kn1 : x1.cell? ⟨bn, x, none⟩ = some (.slice (some ⟨b, 0, none⟩) len c)) (kn2 : x1.cell? ⟨b, i, none⟩ = some (.int .i64 z)) (kw1 : x1.cell? ⟨bw, x, none⟩ = some (.slice (some ⟨b', 0, none⟩) len c')) (kw2 : x1.cell? ⟨b', i, none⟩ = some (.bool t))
    (a : Act) (hsz : a.tmps.size = 68) (g13 : G a 13 = .slice (some ⟨bl, 0, none⟩) len lc) (g14 : G a 14 = .int .i64 (i : Int)) (g2 : G a 2 = .slice (some ⟨bn, 0, none⟩) k kn) (g11 : G a 11 = .int .i64 (x : Int)) (g3 : G a 3 = .slice (some ⟨bw, 0, none⟩) k kw) (Q : Exit → Act → World → Prop)
    (hK : ∀ a', a'.tmps.size = a.tmps.size → a'.defers = a.defers → (∀ s, s < 38 ∨ 56 ≤ s → G a' s = G a s) → Q .normal a' ((x1.drew.setCell ⟨bl, i * 2, none⟩ (.int .i64 z)).setCell ⟨bl, i * 2 + 1, none⟩ (.bool t))) : Code.wp Try.prog (regOf Try.f32 9) Q a x1 := by
  have hixN := run_ix 37 22 bn k kn x hx Try.underlying37 Try.cell22
  have hixW := run_ix 54 23 bw k kw x hx Try.underlying54 Try.cell23
  have hixb := run_ix 22 3 b len c i hi Try.underlying22 Try.cell3
  have hixc := run_ix 23 4 b' len c' i hi Try.underlying23 Try.cell4
  have hth : x1.drew.there bl (i * 2) 2 := fun j hj => by
    refine ⟨?_, frozen_of_row _ bl _ A _ hl⟩
    rw [show x1.drew.cell? ⟨bl, i * 2 + j, none⟩ = A[i * 2 + j]? from cell_of_row _ bl _ A _ _ hl]
    simp
    omega
  conv => arg 2; whnf
  refine region_sto x1 a 38 18 (fun j => [(.slice (some ⟨bl, 0, none⟩) len lc : Value), .int .i64 (i : Int), .slice (some ⟨bn, 0, none⟩) k kn, .int .i64 (x : Int), .pointer (some ⟨bn, x, none⟩), .slice (some ⟨b, 0, none⟩) len c, .int .i64 (i : Int), .pointer (some ⟨b, i, none⟩), .int .i64 z, .slice (some ⟨bw, 0, none⟩) k kw, .int .i64 (x : Int), .pointer (some ⟨bw, x, none⟩), .slice (some ⟨b', 0, none⟩) len c', .int .i64 (i : Int), .pointer (some ⟨b', i, none⟩), .bool t, .agg #[.int .i64 z, .bool t], .pointer (some ⟨bl, i * 2, none⟩)].getD j undef) (by omega) (by kernel_rfl) (by kernel_rfl) (by kernel_rfl) ((x1.drew.setCell ⟨bl, i * 2, none⟩ (.int .i64 z)).setCell ⟨bl, i * 2 + 1, none⟩ (.bool t)) ?_ ?_ ?_ hK
  · intro j hj
    obtain rfl | rfl | rfl | rfl | rfl | rfl | rfl | rfl | rfl | rfl | rfl | rfl | rfl | rfl | rfl | rfl | rfl | rfl : j = 0 ∨ j = 1 ∨ j = 2 ∨ j = 3 ∨ j = 4 ∨ j = 5 ∨ j = 6 ∨ j = 7 ∨ j = 8 ∨ j = 9 ∨ j = 10 ∨ j = 11 ∨ j = 12 ∨ j = 13 ∨ j = 14 ∨ j = 15 ∨ j = 16 ∨ j = 17 := by omega
    all_goals kernel_rfl
  · intro j o ho hj L a' hS hdep K hK
    have e : ∀ q, q < 18 → q ≠ 18 → waits _ j q = true → a'.eval (.tmp (38 + q)) = _ := fun q hq hn hw => hS.ins q hq hn (hdep q hw)
    have eo : ∀ s, (s < 38 ∨ 38 + 18 ≤ s) → a'.eval (.tmp s) = G a s := hS.out
    obtain rfl | rfl | rfl | rfl | rfl | rfl | rfl | rfl | rfl | rfl | rfl | rfl | rfl | rfl | rfl | rfl | rfl | rfl : j = 0 ∨ j = 1 ∨ j = 2 ∨ j = 3 ∨ j = 4 ∨ j = 5 ∨ j = 6 ∨ j = 7 ∨ j = 8 ∨ j = 9 ∨ j = 10 ∨ j = 11 ∨ j = 12 ∨ j = 13 ∨ j = 14 ∨ j = 15 ∨ j = 16 ∨ j = 17 := by omega
    all_goals obtain rfl := Option.some.inj ho
    · exact wp_val (ex_move (.tmp 13) rfl ((eo 13 (Or.inl (by decide))).trans g13)) hK
    · exact wp_val (ex_move (.tmp 14) rfl ((eo 14 (Or.inl (by decide))).trans g14)) hK
    · exact wp_val (ex_move (.tmp 2) rfl ((eo 2 (Or.inl (by decide))).trans g2)) hK
    · exact wp_val (ex_move (.tmp 11) rfl ((eo 11 (Or.inl (by decide))).trans g11)) hK
    · exact wp_val (ex_index 37 (.tmp 40) (.tmp 41) rfl (e 2 (by decide) (by decide) (by kernel_rfl)) (e 3 (by decide) (by decide) (by kernel_rfl)) (hixN _)) hK
    · exact wp_val (ex_load 22 (.tmp 42) rfl agg22 (e 4 (by decide) (by decide) (by kernel_rfl)) kn1) hK
    · exact wp_val (ex_move (.tmp 14) rfl ((eo 14 (Or.inl (by decide))).trans g14)) hK
    · exact wp_val (ex_index 22 (.tmp 43) (.tmp 44) rfl (e 5 (by decide) (by decide) (by kernel_rfl)) (e 6 (by decide) (by decide) (by kernel_rfl)) (hixb _)) hK
    · exact wp_val (ex_load 3 (.tmp 45) rfl agg3 (e 7 (by decide) (by decide) (by kernel_rfl)) kn2) hK
    · exact wp_val (ex_move (.tmp 3) rfl ((eo 3 (Or.inl (by decide))).trans g3)) hK
    · exact wp_val (ex_move (.tmp 11) rfl ((eo 11 (Or.inl (by decide))).trans g11)) hK
    · exact wp_val (ex_index 54 (.tmp 47) (.tmp 48) rfl (e 9 (by decide) (by decide) (by kernel_rfl)) (e 10 (by decide) (by decide) (by kernel_rfl)) (hixW _)) hK
    · exact wp_val (ex_load 23 (.tmp 49) rfl agg23 (e 11 (by decide) (by decide) (by kernel_rfl)) kw1) hK
    · exact wp_val (ex_move (.tmp 14) rfl ((eo 14 (Or.inl (by decide))).trans g14)) hK
    · exact wp_val (ex_index 23 (.tmp 50) (.tmp 51) rfl (e 12 (by decide) (by decide) (by kernel_rfl)) (e 13 (by decide) (by decide) (by kernel_rfl)) (hixc _)) hK
    · exact wp_val (ex_load 4 (.tmp 52) rfl agg4 (e 14 (by decide) (by decide) (by kernel_rfl)) kw2) hK
    · exact wp_val (ex_build82 (.tmp 46) (.tmp 53) rfl (e 8 (by decide) (by decide) (by kernel_rfl)) (e 15 (by decide) (by decide) (by kernel_rfl))) hK
    · exact wp_val (ex_index 80 (.tmp 38) (.tmp 39) rfl (e 0 (by decide) (by decide) (by kernel_rfl)) (e 1 (by decide) (by decide) (by kernel_rfl)) (run_ix2 bl len lc i hi _)) hK
  · intro o ho L a' hS hdep
    obtain rfl := Option.some.inj ho
    exact ex_store82 (.tmp 55) (.tmp 54) rfl (hS.ins 17 (by decide) (by decide) (hdep 17 (by kernel_rfl))) (hS.ins 16 (by decide) (by decide) (hdep 16 (by kernel_rfl))) hth

/-- Only block b was turned. -/
structure Sb (b : Nat) (w w' : World) : Prop where
  os : w'.os = w.os
  tape : w'.tape = w.tape
  output : w'.output = w.output
  size : w'.heap.size = w.heap.size
  other : ∀ i, i ≠ b → w'.heap[i]? = w.heap[i]?
theorem Sb.refl (b : Nat) (w : World) : Sb b w w := ⟨rfl, rfl, rfl, rfl, fun _ _ => rfl⟩
theorem Sb.trans {b : Nat} {w w' w'' : World} (h : Sb b w w') (g : Sb b w' w'') : Sb b w w'' := ⟨g.os.trans h.os, g.tape.trans h.tape, g.output.trans h.output, g.size.trans h.size, fun i hi => (g.other i hi).trans (h.other i hi)⟩
theorem Sb.drew (b : Nat) (w : World) : Sb b w w.drew := ⟨rfl, rfl, rfl, rfl, fun _ _ => rfl⟩
theorem Sb.set (b i : Nat) (w : World) (v : Value) : Sb b w (w.setCell ⟨b, i, none⟩ v) := ⟨rfl, rfl, rfl, by simp, fun j hj => heap_setCell_other _ _ _ _ hj⟩
theorem Sb.below {b B : Nat} {w w' w0 : World} (h : Sb b w w') (hb : Below B w0 w) (hB : B ≤ b) : Below B w0 w' := ⟨h.os.trans hb.os, h.tape.trans hb.tape, h.output.trans hb.output, by rw [h.size]; exact hb.size, fun k hk => (h.other k (by omega)).trans (hb.block k hk)⟩

/-- The first i accesses stand in the row. -/
def Filled (A : Array Value) (acc : List (Nat × Bool)) (i : Nat) : Prop := ∀ j y, j < i → acc[j]? = some y → A[2 * j]? = some (.int .i64 (y.1 : Int)) ∧ A[2 * j + 1]? = some (.bool y.2)
theorem Filled.put {A : Array Value} {acc : List (Nat × Bool)} {i : Nat} {y : Nat × Bool} (h : Filled A acc i) (hy : acc[i]? = some y) (hs : A.size = acc.length * 2) : Filled ((A.setIfInBounds (i * 2) (.int .i64 (y.1 : Int))).setIfInBounds (i * 2 + 1) (.bool y.2)) acc (i + 1) := fun j y' hj hy' => by
  have hi := (List.getElem?_eq_some_iff.1 hy).1
  by_cases e : j = i
  · subst e
    rw [hy] at hy'
    cases hy'
    constructor
    · rw [Array.getElem?_setIfInBounds_ne (by omega), Nat.mul_comm 2 j, Array.getElem?_setIfInBounds_self_of_lt (by omega)]
    · rw [Nat.mul_comm 2 j, Array.getElem?_setIfInBounds_self_of_lt (by simp; omega)]
  · obtain ⟨h1, h2⟩ := h j y' (by omega) hy'
    constructor
    · rw [Array.getElem?_setIfInBounds_ne (by omega), Array.getElem?_setIfInBounds_ne (by omega)]
      exact h1
    · rw [Array.getElem?_setIfInBounds_ne (by omega), Array.getElem?_setIfInBounds_ne (by omega)]
      exact h2

/-- The inputs of one item. -/
structure In32 (w : World) (bn bw x : Nat) (acc : List (Nat × Bool)) : Prop where
  node : ∃ b c, w.cell? ⟨bn, x, none⟩ = some (.slice (some ⟨b, 0, none⟩) acc.length c) ∧ ∀ i y, acc[i]? = some y → w.cell? ⟨b, i, none⟩ = some (.int .i64 (y.1 : Int))
  write : ∃ b c, w.cell? ⟨bw, x, none⟩ = some (.slice (some ⟨b, 0, none⟩) acc.length c) ∧ ∀ i y, acc[i]? = some y → w.cell? ⟨b, i, none⟩ = some (.bool y.2)
theorem cell_below {B : Nat} {w w' : World} (h : Below B w w') {ad : Addr} (hB : B = w.heap.size) {v : Value} (hc : w.cell? ad = some v) : w'.cell? ad = some v :=
  (World.cell?_of_block (h.block _ (by rw [hB]; exact World.block_lt_of_cell? w _ hc))).trans hc
theorem In32.below {w w' : World} {bn bw x : Nat} {acc : List (Nat × Bool)} (h : In32 w bn bw x acc) (hb : Below w.heap.size w w') : In32 w' bn bw x acc := by
  obtain ⟨b, c, h1, h2⟩ := h.node
  obtain ⟨b', c', h3, h4⟩ := h.write
  exact ⟨⟨b, c, cell_below hb rfl h1, fun i y hy => cell_below hb rfl (h2 i y hy)⟩, ⟨b', c', cell_below hb rfl h3, fun i y hy => cell_below hb rfl (h4 i y hy)⟩⟩

/-- The slots of ZZNewViewProblemB1 that last. -/
structure Fr2 (a : Act) (c2 c3 c10 c11 c12 c13 c20 c21 c22 c34 : Value) : Prop where
  sz : a.tmps.size = 68
  df : a.defers = []
  g2 : G a 2 = c2
  g3 : G a 3 = c3
  g10 : G a 10 = c10
  g11 : G a 11 = c11
  g12 : G a 12 = c12
  g13 : G a 13 = c13
  g20 : G a 20 = c20
  g21 : G a 21 = c21
  g22 : G a 22 = c22
  g34 : G a 34 = c34

def Inv32 (w5 : World) (bl : Nat) (acc : List (Nat × Bool)) (c2 c3 c10 c11 c12 c13 c20 c21 c22 c34 : Value) (a : Act) (w : World) : Prop :=
  ∃ (i : Nat) (A : Array Value), Fr2 a c2 c3 c10 c11 c12 c13 c20 c21 c22 c34 ∧ G a 35 = .int .i64 (i : Int) ∧ i ≤ acc.length ∧ w.heap[bl]? = some (.cells A 82 (0, 0)) ∧ A.size = acc.length * 2 ∧ Filled A acc i ∧ Sb bl w5 w

set_option maxHeartbeats 4000000 in
set_option maxRecDepth 100000 in
theorem loop32 (w5 w0 : World) (bl lc bn k kn bw kw x : Nat) (c10 c12 c20 c21 c22 : Value) (acc : List (Nat × Bool)) (hx : x < k) (hm : acc.length ≤ 65536) (hin : In32 w0 bn bw x acc) (hb0 : Below w0.heap.size w0 w5) (hbl : w0.heap.size ≤ bl) (A0 : Array Value) (hA0 : w5.heap[bl]? = some (.cells A0 82 (0, 0))) (hsA : A0.size = acc.length * 2)
    (a0 : Act) (hF : Fr2 a0 (.slice (some ⟨bn, 0, none⟩) k kn) (.slice (some ⟨bw, 0, none⟩) k kw) c10 (.int .i64 (x : Int)) c12 (.slice (some ⟨bl, 0, none⟩) acc.length lc) c20 c21 c22 (.int .i64 (acc.length : Nat))) (g35 : G a0 35 = .int .i64 0)
    (Q : Exit → Act → World → Prop)
    (hexit : ∀ a' w', Fr2 a' (.slice (some ⟨bn, 0, none⟩) k kn) (.slice (some ⟨bw, 0, none⟩) k kw) c10 (.int .i64 (x : Int)) c12 (.slice (some ⟨bl, 0, none⟩) acc.length lc) c20 c21 c22 (.int .i64 (acc.length : Nat)) → ListAt w' bl acc → Sb bl w5 w' → Q (.exit 2) a' w') :
    Code.wp Try.prog (Code.loop (bodyOf Try.f32 1)) Q a0 w5 := by
  refine wp_loop (Inv32 w5 bl acc (.slice (some ⟨bn, 0, none⟩) k kn) (.slice (some ⟨bw, 0, none⟩) k kw) c10 (.int .i64 (x : Int)) c12 (.slice (some ⟨bl, 0, none⟩) acc.length lc) c20 c21 c22 (.int .i64 (acc.length : Nat))) (fun a _ => acc.length - (intOf (G a 35)).toNat) ⟨0, A0, hF, g35, Nat.zero_le _, hA0, hsA, (fun _ _ h => absurd h (Nat.not_lt_zero _)), Sb.refl _ _⟩ ?_
  clear hF g35 a0 hA0 hsA
  rintro a w ⟨i, A, hF, f35, hi, hA, hAs, hfil, hsb⟩
  obtain ⟨u, rfl, hu⟩ := frame68 a hF.sz hF.df
  have e2 := (hu 2).trans hF.g2
  have e3 := (hu 3).trans hF.g3
  have e11 := (hu 11).trans hF.g11
  have e13 := (hu 13).trans hF.g13
  have e34 := (hu 34).trans hF.g34
  have e35 := (hu 35).trans f35
  have HF : Hid (Fr2 _ (.slice (some ⟨bn, 0, none⟩) k kn) (.slice (some ⟨bw, 0, none⟩) k kw) c10 (.int .i64 (x : Int)) c12 (.slice (some ⟨bl, 0, none⟩) acc.length lc) c20 c21 c22 (.int .i64 (acc.length : Nat))) := ⟨hF⟩
  clear hu hF
  rw [f35]
  clear f35
  conv => arg 2; whnf
  rw [e2, e3, e11, e13, e34, e35]
  clear e2 e3 e11 e13 e34 e35
  have HX : Hid (∀ a' w', Fr2 a' (.slice (some ⟨bn, 0, none⟩) k kn) (.slice (some ⟨bw, 0, none⟩) k kw) c10 (.int .i64 (x : Int)) c12 (.slice (some ⟨bl, 0, none⟩) acc.length lc) c20 c21 c22 (.int .i64 (acc.length : Nat)) → ListAt w' bl acc → Sb bl w5 w' → Q (.exit 2) a' w') := ⟨hexit⟩
  have HS : Hid (Sb bl w5 w) := ⟨hsb⟩
  have HA : Hid (w.heap[bl]? = some (.cells A 82 (0, 0)) ∧ A.size = acc.length * 2 ∧ Filled A acc i) := ⟨hA, hAs, hfil⟩
  have hin' := hin.below (hsb.below hb0 hbl)
  clear hexit hsb hA hAs hfil
  by_cases hlt : i < acc.length
  case neg =>
    obtain rfl : i = acc.length := by omega
    clear hlt hin hin'
    go_wp2
    exact HX.out _ _ ⟨rfl, rfl, rfl, rfl, HF.out.g10, rfl, HF.out.g12, rfl, HF.out.g20, HF.out.g21, HF.out.g22, rfl⟩ ⟨A, HA.out.1, by rw [HA.out.2.1, Nat.mul_comm], fun j y hy => HA.out.2.2 j y (List.getElem?_eq_some_iff.1 hy).1 hy⟩ HS.out
  case pos =>
    obtain ⟨y, hy⟩ : ∃ y, acc[i]? = some y := ⟨acc[i], by simp [hlt]⟩
    obtain ⟨b, c, kn1, kn2⟩ := hin'.node
    obtain ⟨b', c', kw1, kw2⟩ := hin'.write
    have kn2' := kn2 i y hy
    have kw2' := kw2 i y hy
    have HY : Hid (acc[i]? = some y) := ⟨hy⟩
    clear hin hin' kn2 kw2 hy
    go_upto_region 9 with (fail)
    refine reg32_9 w bl acc.length lc bn k kn bw kw x i b c b' c' _ _ A HA.out.1 HA.out.2.1 hlt hx kn1 kn2' kw1 kw2' _ rfl rfl rfl rfl rfl rfl _ ?_
    intro a' hsz' hdf' hout
    have HO : Hid (Fr2 a' (.slice (some ⟨bn, 0, none⟩) k kn) (.slice (some ⟨bw, 0, none⟩) k kw) c10 (.int .i64 (x : Int)) c12 (.slice (some ⟨bl, 0, none⟩) acc.length lc) c20 c21 c22 (.int .i64 (acc.length : Nat))) := ⟨hsz', hdf', hout 2 (by decide), hout 3 (by decide), (hout 10 (by decide)).trans HF.out.g10, hout 11 (by decide), (hout 12 (by decide)).trans HF.out.g12, hout 13 (by decide), (hout 20 (by decide)).trans HF.out.g20, (hout 21 (by decide)).trans HF.out.g21, (hout 22 (by decide)).trans HF.out.g22, hout 34 (by decide)⟩
    have f35 : G a' 35 = .int .i64 (i : Int) := hout 35 (by decide)
    clear hout HF kn1 kn2' kw1 kw2' hsz' hdf'
    obtain ⟨u', rfl, hu⟩ := frame68 a' HO.out.sz HO.out.df
    have e35 := (hu 35).trans f35
    clear hu f35
    rw [e35]
    clear e35
    go_wp2
    refine ⟨⟨i + 1, (A.setIfInBounds (i * 2) (.int .i64 (y.1 : Int))).setIfInBounds (i * 2 + 1) (.bool y.2), ⟨rfl, rfl, HO.out.g2, HO.out.g3, HO.out.g10, HO.out.g11, HO.out.g12, HO.out.g13, HO.out.g20, HO.out.g21, HO.out.g22, HO.out.g34⟩, (by show Value.int .i64 ((i : Int) + 1) = _; simp), hlt, ?_, by simp [HA.out.2.1], HA.out.2.2.put HY.out HA.out.2.1, HS.out.trans ((Sb.drew _ _).trans ((Sb.set _ _ _ _).trans (Sb.set _ _ _ _)))⟩, ?_⟩
    · exact heap_setCell_same _ _ _ _ _ _ (heap_setCell_same _ _ _ _ _ _ HA.out.1)
    · show acc.length - (intOf (Value.int .i64 ((i : Int) + 1))).toNat < acc.length - (intOf (Value.int .i64 (i : Int))).toNat
      simp [intOf]
      omega
end Go.Proofs.Qxb6001364a
