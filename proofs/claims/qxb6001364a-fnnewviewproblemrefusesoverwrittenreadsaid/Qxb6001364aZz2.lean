import Derived.Test.Qxb6001364aZz
import Derived.Deep.Cut
namespace Go.Proofs.Qxb6001364a
open Go.ChangeShapes Go.WideShapes Go.ChangeAt Go.RowKit Go.Maps

theorem make80 (n : Nat) (hn : n ≤ 65536) : ∃ M : Array Value, M.size = n * 2 ∧ ∀ W : World, (Instr.makeSlice 80 (.int .i64 (n : Int)) (.int .i64 (n : Int))).run Try.prog W = .ok (.slice (some ⟨W.heap.size, 0, none⟩) n n) (W.alloc (.cells M 82)) := by
  obtain ⟨i0, hi0, hz0, hz1, hz2⟩ := info_parts Try.info82
  refine ⟨madeCells (Value.agg #[.int .i64 0, .bool false]).cells (((n : Nat) : Int).toNat * i0.size), by rw [size_madeCells, hz1]; simp, fun W => ?_⟩
  have h := run_make (P := Try.prog) W 80 82 i0 _ Try.underlying80 hi0 hz0 .i64 .i64 (n : Int) (n : Int) (by omega) (by omega) (by rw [hz2]; omega) (by omega)
  simpa using h

theorem ListAt.same {w w' : World} {bl : Nat} {acc : List (Nat × Bool)} (h : ListAt w bl acc) (hb : w'.heap[bl]? = w.heap[bl]?) : ListAt w' bl acc := by
  obtain ⟨A, hA, r⟩ := h.row
  exact ⟨A, hb.trans hA, r⟩

/-- The graph while it is made. -/
structure GrZ (w w' : World) (gb gm : Nat) (nv iv m3 m4 : Value) (x : Nat) (itm : Nat → ByteArray) (accs : List (List (Nat × Bool))) (f : ByteArray → Option Value) (bls : Nat → Nat) : Prop where
  bel : Below w.heap.size w w'
  row : w'.heap[gb]? = some (.cells #[nv, iv, .map (some gm), m3, m4] 79 (0, 0))
  map : MapG kS 9 w' gm x f
  ent : ∀ y, y < x → f (itm y) = some (.slice (some ⟨bls y, 0, none⟩) (accs.getD y []).length (accs.getD y []).length)
  lst : ∀ y, y < x → ListAt w' (bls y) (accs.getD y [])
  gbl : w.heap.size ≤ gb
  gml : w.heap.size ≤ gm

section
variable {w w' w'' : World} {gb gm : Nat} {nv iv m3 m4 : Value} {x : Nat} {itm : Nat → ByteArray} {accs : List (List (Nat × Bool))} {f : ByteArray → Option Value} {bls : Nat → Nat}
theorem GrZ.alloc (h : GrZ w w' gb gm nv iv m3 m4 x itm accs f bls) (o : Obj) : GrZ w (w'.alloc o) gb gm nv iv m3 m4 x itm accs f bls :=
  ⟨h.bel.alloc h.bel.size o, (Below.heap_alloc w' o gb (row_lt h.row)).trans h.row, h.map.same (Below.heap_alloc w' o gm h.map.lt), h.ent, fun y hy => (h.lst y hy).same (Below.heap_alloc w' o _ (h.lst y hy).lt), h.gbl, h.gml⟩
theorem GrZ.sb (h : GrZ w w' gb gm nv iv m3 m4 x itm accs f bls) {o : Obj} (hs : Sb w'.heap.size (w'.alloc o) w'') : GrZ w w'' gb gm nv iv m3 m4 x itm accs f bls := by
  have h1 := h.alloc o
  exact ⟨hs.below h1.bel h.bel.size, (hs.other _ (Nat.ne_of_lt (row_lt h.row))).trans h1.row, h1.map.same (hs.other _ (Nat.ne_of_lt h.map.lt)), h.ent, fun y hy => (h1.lst y hy).same (hs.other _ (Nat.ne_of_lt (h.lst y hy).lt)), h.gbl, h.gml⟩
theorem GrZ.put (h : GrZ w w' gb gm nv iv m3 m4 x itm accs f bls) {bl : Nat} (hl : ListAt w' bl (accs.getD x [])) (hinj : ∀ y, y < x → itm y ≠ itm x) (hM : MapG kS 9 w'' gm (x + 1) (updG f (itm x) (.slice (some ⟨bl, 0, none⟩) (accs.getD x []).length (accs.getD x []).length))) (hg : w'.grownBy w'' (some gm)) :
    GrZ w w'' gb gm nv iv m3 m4 (x + 1) itm accs (updG f (itm x) (.slice (some ⟨bl, 0, none⟩) (accs.getD x []).length (accs.getD x []).length)) (fun y => if y = x then bl else bls y) := by
  obtain ⟨es, c, hm⟩ := h.map.isMap
  have keepL : ∀ b acc, ListAt w' b acc → ListAt w'' b acc := fun b acc hb => by
    obtain ⟨A, hA, r⟩ := hb.row
    exact ⟨A, (hg.block _ (row_lt hA) (by simpa using ne_of_obj hA hm (by simp))).trans hA, r⟩
  refine ⟨h.bel.grown hg h.bel.size (fun k hk => by cases hk; exact h.gml), (hg.block _ (row_lt h.row) (by simpa using ne_of_obj h.row hm (by simp))).trans h.row, hM, fun y hy => ?_, fun y hy => ?_, h.gbl, h.gml⟩
  · by_cases e : y = x
    · subst e
      simp [updG]
    · have := h.ent y (by omega)
      simp [updG, hinj y (by omega), e, this]
  · by_cases e : y = x
    · subst e
      simp only [if_true]
      exact keepL _ _ hl
    · simp only [e, if_false]
      exact keepL _ _ (h.lst y (by omega))
end

def InvZ (w : World) (gb gm bn kn bw kw bi ck k : Nat) (nv m3 m4 : Value) (itm : Nat → ByteArray) (accs : List (List (Nat × Bool))) (a : Act) (w' : World) : Prop :=
  ∃ (x : Nat) (f : ByteArray → Option Value) (bls : Nat → Nat) (c11 c12 c13 c34 : Value), Fr2 a (.slice (some ⟨bn, 0, none⟩) k kn) (.slice (some ⟨bw, 0, none⟩) k kw) (.pointer (some ⟨gb, 0, none⟩)) c11 c12 c13 (.slice (some ⟨bi, 0, none⟩) k ck) (.int .i64 (k : Int)) (.int .i64 (x : Int)) c34 ∧ x ≤ k ∧ GrZ w w' gb gm nv (.slice (some ⟨bi, 0, none⟩) k ck) m3 m4 x itm accs f bls

set_option maxHeartbeats 4000000 in
set_option maxRecDepth 100000 in
theorem loopZ (w : World) (gb gm bn kn bw kw bi ck k : Nat) (nv m3 m4 : Value) (itm : Nat → ByteArray) (accs : List (List (Nat × Bool))) (hk : k ≤ 65536)
    (hit : ∀ x, x < k → w.cell? ⟨bi, x, none⟩ = some (.string (itm x))) (hsz : ∀ x, x < k → (itm x).size ≤ maxLen) (hinj : ∀ x y, x < k → y < k → itm x = itm y → x = y) (hin : ∀ x, x < k → In32 w bn bw x (accs.getD x [])) (hlen : ∀ x, (accs.getD x []).length ≤ 65536)
    (a : Act) (w1 : World) (hI : InvZ w gb gm bn kn bw kw bi ck k nv m3 m4 itm accs a w1)
    (Q : Exit → Act → World → Prop)
    (hexit : ∀ a' w' f bls, a'.tmps.size = 68 → a'.defers = [] → G a' 10 = .pointer (some ⟨gb, 0, none⟩) → GrZ w w' gb gm nv (.slice (some ⟨bi, 0, none⟩) k ck) m3 m4 k itm accs f bls → Q (.exit 0) a' w') :
    Code.wp Try.prog (Code.loop (bodyOf Try.f32 0)) Q a w1 := by
  refine wp_loop (InvZ w gb gm bn kn bw kw bi ck k nv m3 m4 itm accs) (fun a _ => k - (intOf (G a 22)).toNat) hI ?_
  clear hI a w1
  rintro a w' ⟨x, f, bls, c11, c12, c13, c34, hF, hxk, hGr⟩
  obtain ⟨u, rfl, hu⟩ := frame68 a hF.sz hF.df
  have e2 := (hu 2).trans hF.g2
  have e3 := (hu 3).trans hF.g3
  have e10 := (hu 10).trans hF.g10
  have e20 := (hu 20).trans hF.g20
  have e21 := (hu 21).trans hF.g21
  have e22 := (hu 22).trans hF.g22
  have g22 := hF.g22
  clear hu hF
  rw [g22]
  clear g22
  conv => arg 2; whnf
  rw [e2, e3, e10, e20, e21, e22]
  clear e2 e3 e10 e20 e21 e22
  have HX : Hid (∀ a' w' f bls, a'.tmps.size = 68 → a'.defers = [] → G a' 10 = .pointer (some ⟨gb, 0, none⟩) → GrZ w w' gb gm nv (.slice (some ⟨bi, 0, none⟩) k ck) m3 m4 k itm accs f bls → Q (.exit 0) a' w') := ⟨hexit⟩
  have HG : Hid (GrZ w w' gb gm nv (.slice (some ⟨bi, 0, none⟩) k ck) m3 m4 x itm accs f bls) := ⟨hGr⟩
  clear hexit
  by_cases hlt : x < k
  case neg =>
    obtain rfl : x = k := by omega
    clear hlt hGr hit hsz hinj hin
    go_wp2
    exact HX.out _ _ f bls rfl rfl rfl HG.out
  case pos =>
    have hs' := cell_below hGr.bel rfl (hit x hlt)
    have hix1 := run_ix 52 9 bi k ck x hlt Try.underlying52 Try.cell9
    have hix2 := run_ix 37 22 bn k kn x hlt Try.underlying37 Try.cell22
    have HIN : Hid (In32 w bn bw x (accs.getD x [])) := ⟨hin x hlt⟩
    obtain ⟨b, c, hn1, _⟩ := ((hin x hlt).below hGr.bel).node
    have hml := hlen x
    obtain ⟨acc, hacc⟩ : ∃ acc, acc = (accs.getD x []) := ⟨_, rfl⟩
    rw [← hacc] at HIN hn1 hml
    have HA : Hid (acc = (accs.getD x [])) := ⟨hacc⟩
    clear hacc
    obtain ⟨M, hM, hmk⟩ := make80 acc.length hml
    have HSZ : Hid ((itm x).size ≤ maxLen) := ⟨hsz x hlt⟩
    have HINJ : Hid (∀ y, y < x → itm y ≠ itm x) := ⟨fun y hy e => by have := hinj y x (by omega) hlt e; omega⟩
    clear hGr hit hsz hinj hin
    generalize hsx : itm x = sx at hs'
    have HSX : Hid (itm x = sx) := ⟨hsx⟩
    clear hsx
    go_wp2
    have hbl := HG.out.bel.size
    refine loop32 (w'.alloc (.cells M 82)) w w'.heap.size acc.length bn k kn bw kw x (.pointer (some ⟨gb, 0, none⟩)) (.string sx) (.slice (some ⟨bi, 0, none⟩) k ck) (.int .i64 (k : Int)) (.int .i64 (x : Int)) acc hlt hml HIN.out (HG.out.alloc _).bel hbl M (heap_alloc_new _ _) hM _ ?_ rfl _ ?_
    · exact ⟨rfl, rfl, rfl, rfl, rfl, rfl, rfl, rfl, rfl, rfl, rfl, rfl⟩
    · intro a' w'' hF' hL hSb
      have HF' : Hid (Fr2 a' (.slice (some ⟨bn, 0, none⟩) k kn) (.slice (some ⟨bw, 0, none⟩) k kw) (.pointer (some ⟨gb, 0, none⟩)) (.int .i64 (x : Int)) (.string sx) (.slice (some ⟨w'.heap.size, 0, none⟩) acc.length acc.length) (.slice (some ⟨bi, 0, none⟩) k ck) (.int .i64 (k : Int)) (.int .i64 (x : Int)) (.int .i64 (acc.length : Nat))) := ⟨hF'⟩
      have hG2 := HG.out.sb hSb
      have HG2 : Hid (GrZ w w'' gb gm nv (.slice (some ⟨bi, 0, none⟩) k ck) m3 m4 x itm accs f bls) := ⟨hG2⟩
      have kg : w''.cell? ⟨gb, 2, none⟩ = some (.map (some gm)) := by
        rw [cell_of_row w'' gb 2 _ _ _ hG2.row]
        rfl
      obtain ⟨x2, hput, hM2, hg2⟩ := hG2.map.put 76 80 law9 Try.underlying76 (by unfold maxLen; omega) kS_inj (kS_key HSZ.out) (v := .slice (some ⟨w'.heap.size, 0, none⟩) acc.length acc.length) rfl
      have HG3 : Hid (GrZ w x2 gb gm nv (.slice (some ⟨bi, 0, none⟩) k ck) m3 m4 (x + 1) itm accs (updG f (itm x) (.slice (some ⟨w'.heap.size, 0, none⟩) acc.length acc.length)) (fun y => if y = x then w'.heap.size else bls y)) := ⟨by
        have hA := HA.out
        subst hA
        exact hG2.put hL HINJ.out hM2 hg2⟩
      have hput' : (Instr.mapUpdate 76 (.map (some gm)) (.string sx) (.slice (some ⟨w'.heap.size, 0, none⟩) acc.length acc.length)).run Try.prog w'' = .ok () x2 := by
        rw [← HSX.out]
        exact hput
      clear hF' hL hSb hG2 hput hM2 hg2 HG hmk
      obtain ⟨u', rfl, hu⟩ := frame68 a' HF'.out.sz HF'.out.df
      have e10 := (hu 10).trans HF'.out.g10
      have e12 := (hu 12).trans HF'.out.g12
      have e13 := (hu 13).trans HF'.out.g13
      have e22 := (hu 22).trans HF'.out.g22
      clear hu
      rw [e10, e12, e13, e22]
      clear e10 e12 e13 e22
      go_wp2_with (at_mapUpdate; go_must (refine wpList_put_run _ rfl 76 _ _ _ rfl _ _ _ x2 rfl rfl rfl hput' ?_))
      refine ⟨⟨x + 1, _, _, _, _, _, _, ⟨rfl, rfl, HF'.out.g2, HF'.out.g3, rfl, rfl, rfl, rfl, HF'.out.g20, HF'.out.g21, (by show Value.int .i64 ((x : Int) + 1) = _; simp), rfl⟩, hlt, HG3.out⟩, ?_⟩
      · show k - (intOf (Value.int .i64 ((x : Int) + 1))).toNat < k - (intOf (Value.int .i64 (x : Int))).toNat
        simp [intOf]
        omega

set_option maxHeartbeats 4000000 in
set_option maxRecDepth 100000 in
/-- ZZNewViewProblemB1. -/
theorem zz_any (w : World) (n k : Nat) (an : Option Addr) (cn bi ck bn kn bw kw : Nat) (itm : Nat → ByteArray) (accs : List (List (Nat × Bool))) (hn : n ≤ 65536) (hk : k ≤ 65536)
    (hit : ∀ x, x < k → w.cell? ⟨bi, x, none⟩ = some (.string (itm x))) (hsz : ∀ x, x < k → (itm x).size ≤ maxLen) (hinj : ∀ x y, x < k → y < k → itm x = itm y → x = y) (hin : ∀ x, x < k → In32 w bn bw x (accs.getD x [])) (hlen : ∀ x, (accs.getD x []).length ≤ 65536)
    (hnodes : ∀ x, ∀ y ∈ (accs.getD x []), y.1 < n) (hbad : ∃ x, x < k ∧ Bad (accs.getD x [])) :
    Calls Try.prog 32 #[.slice an n cn, (.slice (some ⟨bi, 0, none⟩) k ck), (.slice (some ⟨bn, 0, none⟩) k kn), (.slice (some ⟨bw, 0, none⟩) k kw)] w fun e w' => e = .returned (.tuple #[.pointer none, .bool false]) ∧ Below w.heap.size w w' := by
  have hmm := @run_makeMap Try.prog
  have HIT : Hid (∀ x, x < k → w.cell? ⟨bi, x, none⟩ = some (.string (itm x))) := ⟨hit⟩
  have HSZ : Hid (∀ x, x < k → (itm x).size ≤ maxLen) := ⟨hsz⟩
  have HINJ : Hid (∀ x y, x < k → y < k → itm x = itm y → x = y) := ⟨hinj⟩
  have HIN : Hid (∀ x, x < k → In32 w bn bw x (accs.getD x [])) := ⟨hin⟩
  have HLEN : Hid (∀ x, (accs.getD x []).length ≤ 65536) := ⟨hlen⟩
  have HN : Hid (∀ x, ∀ y ∈ (accs.getD x []), y.1 < n) := ⟨hnodes⟩
  have HB : Hid (∃ x, x < k ∧ Bad (accs.getD x [])) := ⟨hbad⟩
  clear hit hsz hinj hin hlen hnodes hbad
  go_enter Try.func32, Try.ntmps32
  go_wp2
  have s1 := size_alloc_ w (.map #[] 0)
  have hS : GrZ w ((w.alloc (.map #[] 0)).alloc (.cells #[.slice an n cn, (.slice (some ⟨bi, 0, none⟩) k ck), .map (some w.heap.size), .slice none 0 0, .slice none 0 0] 79)) (w.heap.size + 1) w.heap.size (.slice an n cn) (.slice (some ⟨bi, 0, none⟩) k ck) (.slice none 0 0) (.slice none 0 0) 0 itm accs (fun _ => none) (fun _ => 0) := by
    have k2 := heap_alloc_new (w.alloc (.map #[] 0)) (.cells #[.slice an n cn, (.slice (some ⟨bi, 0, none⟩) k ck), .map (some w.heap.size), .slice none 0 0, .slice none 0 0] 79)
    have k1 := (Below.heap_alloc (w.alloc (.map #[] 0)) (.cells #[.slice an n cn, (.slice (some ⟨bi, 0, none⟩) k ck), .map (some w.heap.size), .slice none 0 0, .slice none 0 0] 79) w.heap.size (by omega)).trans (heap_alloc_new w (.map #[] 0))
    rw [s1] at k2
    exact ⟨((Below.refl _ w).alloc (Nat.le_refl _) _).alloc (by omega) _, k2, MapG.made k1, (fun _ h => absurd h (Nat.not_lt_zero _)), (fun _ h => absurd h (Nat.not_lt_zero _)), by omega, Nat.le_refl _⟩
  refine loopZ w (w.heap.size + 1) w.heap.size bn kn bw kw bi ck k (.slice an n cn) (.slice none 0 0) (.slice none 0 0) itm accs hk HIT.out HSZ.out HINJ.out HIN.out HLEN.out _ _ ?_ _ ?_
  · exact ⟨0, _, _, _, _, _, _, ⟨rfl, rfl, rfl, rfl, rfl, rfl, rfl, rfl, rfl, rfl, rfl, rfl⟩, Nat.zero_le _, hS⟩
  · intro a' w' f bls hsz hdf h10 hG
    have hgr : GraphAt w' (w.heap.size + 1) n k bi ck w.heap.size accs := by
      obtain ⟨x0, hx0, _⟩ := HB.out
      refine ⟨⟨an, cn, _, _, hG.row⟩, hG.map.lt, Nat.lt_of_lt_of_le (World.block_lt_of_cell? w _ (HIT.out x0 hx0)) hG.bel.size, fun x hx => ⟨itm x, bls x, cell_below hG.bel rfl (HIT.out x hx), fun W hW => ?_, hG.lst x hx⟩, HLEN.out, HN.out⟩
      have := ((hG.map.same hW).look 76 80 (.slice none 0 0) law9 Try.underlying76 zero80 rfl (kS_key (HSZ.out x hx))).2
      rw [hG.ent x hx] at this
      exact this
    have hnew := new_any w' (w.heap.size + 1) n k bi ck w.heap.size accs hgr hn hk HB.out
    have HBel : Hid (Below w.heap.size w w') := ⟨hG.bel⟩
    clear hS hG hgr hmm
    obtain ⟨u, rfl, hu⟩ := frame68 a' hsz hdf
    have e10 := (hu 10).trans h10
    clear hu h10 hsz hdf
    rw [e10]
    clear e10
    go_wp2_with (go_at_call 38; refine hnew.mono ?_; rintro e w'' ⟨rfl, hb⟩)
    go_ret2
    exact ⟨rfl, HBel.out.trans (hb.mono HBel.out.size)⟩
end Go.Proofs.Qxb6001364a
