import Derived.Test.Qxb6001364aS2
import Derived.Deep.Cut
import Derived.Deep.MidRow
import Derived.Deep.WholeRow
namespace Go.Proofs.Qxb6001364a
open Go.ChangeShapes Go.WideShapes Go.ChangeAt Go.RowKit Go.Maps

theorem Try.underlying80 : Try.prog.underlying 80 = some (.slice 82) := by kernel_rfl
theorem Try.size82 : (Try.prog.info? 82).map (·.size) = some 2 := by kernel_rfl
theorem run_ix2 (b len cap i : Nat) (hi : i < len) (W : World) :
    (Instr.indexAt 80 (.slice (some ⟨b, 0, none⟩) len cap) (.int .i64 (i : Int))).run Try.prog W = .ok (.pointer (some ⟨b, i * 2, none⟩)) W := by
  obtain ⟨j, hj, hsz⟩ := Option.map_eq_some_iff.1 Try.size82
  simp [Instr.indexAt, run_underlying Try.underlying80, asIntOf, hi, sizeOf, typeInfo, hj, hsz, Addr.add]
  exact fun h => h.symm

section
variable {w : World} {ops : Array Oper} {rest : List Oper} {o : Oper} {a : Act} {Q : Exit → Act → World → Prop}
theorem wpList_load_run (hg : o.guard = none) (t : TypeId) (x : Operand) (hop : o.op = Op.load t x) (p v : Value) (hx : a.eval x = p) (hr : (Instr.loadAt t p).run Try.prog w = .ok v w)
    (hK : wpList Try.prog ops Q rest (a.put o.dst v) w) : wpList Try.prog ops Q (o :: rest) a w := by
  refine wpList_plain hg fun K' hK' => ?_
  unfold Oper.wp
  simp [execOp, hop, hx, hr, Result.andThen]
  exact hK' _ _ hK
theorem wpList_alloc_run (hg : o.guard = none) (t : TypeId) (hop : o.op = Op.alloc t) (v : Value) (w' : World) (hr : (Instr.alloc t true (.tuple #[])).run Try.prog w = .ok v w')
    (hK : wpList Try.prog ops Q rest (a.put o.dst v) w') : wpList Try.prog ops Q (o :: rest) a w := by
  refine wpList_plain hg fun K' hK' => ?_
  unfold Oper.wp
  simp [execOp, hop, hr, Result.andThen]
  exact hK' _ _ hK
theorem wpList_store_run (hg : o.guard = none) (t : TypeId) (x y : Operand) (hop : o.op = Op.store t x y) (p v : Value) (w' : World) (hx : a.eval x = p) (hy : a.eval y = v) (hr : (Instr.storeAt t p v).run Try.prog w = .ok () w')
    (hK : wpList Try.prog ops Q rest (a.put o.dst undef) w') : wpList Try.prog ops Q (o :: rest) a w := by
  refine wpList_plain hg fun K' hK' => ?_
  unfold Oper.wp
  simp [execOp, hop, hx, hy, hr, Result.andThen]
  exact hK' _ _ hK
end
theorem Try.row82 : (Try.prog.underlying 82).map TypeDesc.isRow = some true := by kernel_rfl
theorem alloc82 (w : World) : (Instr.alloc 82 true (.tuple #[])).run Try.prog w = .ok (.pointer (some ⟨w.heap.size, 0, none⟩)) (w.alloc (.cells #[.int .i64 0, .bool false] 82)) := by kernel_rfl
theorem store82 (w : World) (r : Nat) (b : Bool) : (Instr.storeAt 82 (.pointer (some ⟨w.heap.size, 0, none⟩)) (.agg #[.int .i64 (r : Int), .bool b])).run Try.prog (w.alloc (.cells #[.int .i64 0, .bool false] 82)) = .ok () (w.alloc (.cells #[.int .i64 (r : Int), .bool b] 82)) :=
  run_storeAt_new w 82 _ _ Try.size82 rfl (by simp [Value.oneCell'])
theorem load82 {w : World} {bl j r : Nat} {b : Bool} (h0 : w.cell? ⟨bl, j * 2, none⟩ = some (.int .i64 (r : Int))) (h1 : w.cell? ⟨bl, j * 2 + 1, none⟩ = some (.bool b)) : (Instr.loadAt 82 (.pointer (some ⟨bl, j * 2, none⟩))).run Try.prog w = .ok (.agg #[.int .i64 (r : Int), .bool b]) w := by
  obtain ⟨d, hd, hr⟩ := Option.map_eq_some_iff.1 Try.row82
  refine run_loadAt_mid w bl (j * 2) 82 [.int .i64 (r : Int), .bool b] d (fun i v hv => ?_) hd hr Try.size82
  match i with
  | 0 =>
    cases hv
    exact h0
  | 1 =>
    cases hv
    exact h1
  | _ + 2 => cases hv

/-- The rows of p.writers: row x has at most j, the others are as they were. -/
structure RowsX (C : PC) (x j : Nat) (w2 w : World) : Prop where
  other : ∀ y, y ≠ x → w.cell? ⟨C.b2, y, none⟩ = w2.cell? ⟨C.b2, y, none⟩
  row : ∃ row, w.cell? ⟨C.b2, x, none⟩ = some row ∧ lenV row ≤ j
section
variable {C : PC} {x j : Nat} {w2 w w' : World} {τ : Tags}
theorem RowsX.same (h : RowsX C x j w2 w) (hb : w'.heap[C.b2]? = w.heap[C.b2]?) : RowsX C x j w2 w' :=
  ⟨fun y hy => (World.cell?_of_block hb).trans (h.other y hy), by
    obtain ⟨row, hr, hl⟩ := h.row
    exact ⟨row, (World.cell?_of_block hb).trans hr, hl⟩⟩
theorem RowsX.k3 (h : RowsX C x j w2 w) (hk : K3 τ w w') {c : Nat} (ht : τ C.b2 = some (3, c)) (hl : C.b2 < w.heap.size) : RowsX C x j w2 w' := h.same (hk _ _ ht hl)
theorem RowsX.more (h : RowsX C x j w2 w) {j' : Nat} (hj : j ≤ j') : RowsX C x j' w2 w :=
  ⟨h.other, by
    obtain ⟨row, hr, hl⟩ := h.row
    exact ⟨row, hr, by omega⟩⟩
theorem RowsX.set (h : RowsX C x j w2 w) (ht : ∃ A e, w.heap[C.b2]? = some (.cells A e (0, 0))) {v : Value} (hv : lenV v ≤ j + 1) : RowsX C x (j + 1) w2 (w.setCell ⟨C.b2, x, none⟩ v) := by
  obtain ⟨A, e, hA⟩ := ht
  have hA' : (w.setCell ⟨C.b2, x, none⟩ v).heap[C.b2]? = some (.cells (A.setIfInBounds x v) e (0, 0)) := heap_setCell_same _ _ _ _ _ _ hA
  refine ⟨fun y hy => ?_, ?_⟩
  · rw [← h.other y hy, cell_of_row _ _ _ _ _ _ hA', cell_of_row _ _ _ _ _ _ hA]
    simp [Ne.symm hy]
  · obtain ⟨row, hr, hl⟩ := h.row
    rw [cell_of_row _ _ _ _ _ _ hA] at hr
    refine ⟨v, ?_, hv⟩
    rw [cell_of_row _ _ _ _ _ _ hA']
    have := (Array.getElem?_eq_some_iff.1 hr).1
    simp [this]
end

def Inv2 (C : PC) (w0 w2 : World) (bm1 bm2 bm3 bl : Nat) (acc : List (Nat × Bool)) (x L0 : Nat) (v4 v5 c0 c16 c68 c69 c70 : Value) (a : Act) (w : World) : Prop :=
  ∃ (j : Nat) (τ : Tags) (L : Nat) (rv : Value) (cm : Nat) (F1 F2 F3 : Int → Option Value), Fr a c0 (.pointer (some ⟨C.pb, 0, none⟩)) (.int .i64 (x : Int)) (.map (some bm1)) rv (.map (some bm2)) (.int .i64 (lastW (acc.take j))) c16 c68 c69 c70 ∧ G a 10 = .map (some bm3) ∧ G a 83 = (.slice (some ⟨bl, 0, none⟩) acc.length acc.length) ∧ G a 84 = .int .i64 (acc.length : Nat) ∧ G a 85 = .int .i64 j ∧ j ≤ acc.length ∧ S2 C w0 bm1 bm2 bm3 v4 v5 w τ L rv cm F1 F2 F3 ∧ Sem2 acc j F1 F3 ∧ L ≤ L0 + j ∧ cm ≤ 2 * j ∧ lenV rv ≤ j ∧ RowsX C x j w2 w

set_option maxHeartbeats 8000000 in
set_option maxRecDepth 100000 in
theorem loop2 (C : PC) (w0 w2 : World) (bm1 bm2 bm3 bl : Nat) (acc : List (Nat × Bool)) (x L0 : Nat) (v4 v5 c0 c16 c68 c69 c70 : Value)
    (hL : L0 + acc.length + 5 < 1099511627776) (hm : acc.length ≤ 65536) (hn : C.n ≤ 65536) (hx : x < C.k) (hacc : ∀ y ∈ acc, y.1 < C.n) (hlist : ListAt w0 bl acc) (a : Act) (w3 : World) (hI : Inv2 C w0 w2 bm1 bm2 bm3 bl acc x L0 v4 v5 c0 c16 c68 c69 c70 a w3)
    (Q : Exit → Act → World → Prop)
    (hexit : ∀ a' w' τ' L' rv' cm' F1' F2' F3', Fr a' c0 (.pointer (some ⟨C.pb, 0, none⟩)) (.int .i64 (x : Int)) (.map (some bm1)) rv' (.map (some bm2)) (.int .i64 (lastW acc)) c16 c68 c69 c70 → S2 C w0 bm1 bm2 bm3 v4 v5 w' τ' L' rv' cm' F1' F2' F3' → Sem2 acc acc.length F1' F3' → L' ≤ L0 + acc.length → cm' ≤ 2 * acc.length → lenV rv' ≤ acc.length → RowsX C x acc.length w2 w' → Q (.exit 2) a' w')
    (hret : ∀ a' w', a'.tmps.size = 405 → a'.defers = [] → G a' 2 = .pointer none → G a' 3 = .bool false → Below w0.heap.size w0 w' → Q .ret a' w') :
    Code.wp Try.prog (Code.loop (bodyOf Try.f38 1)) Q a w3 := by
  refine wp_loop (Inv2 C w0 w2 bm1 bm2 bm3 bl acc x L0 v4 v5 c0 c16 c68 c69 c70) (fun a _ => acc.length - (intOf (G a 85)).toNat) hI ?_
  clear hI a w3
  rintro a w ⟨j, τ, L, rv, cm, F1, F2, F3, hF, g10, g83, g84, g85, hj, hS, hsem, hLj, hcm, hrvl, hrows⟩
  obtain ⟨u, rfl, hu⟩ := frame_any a hF.sz hF.df
  have e4 := (hu 4).trans hF.g4
  have e5 := (hu 5).trans hF.g5
  have e7 := (hu 7).trans hF.g7
  have e8 := (hu 8).trans hF.g8
  have e9 := (hu 9).trans hF.g9
  have e10 := (hu 10).trans g10
  have e11 := (hu 11).trans hF.g11
  have e83 := (hu 83).trans g83
  have e84 := (hu 84).trans g84
  have e85 := (hu 85).trans g85
  have HF : Hid (Fr _ c0 (.pointer (some ⟨C.pb, 0, none⟩)) (.int .i64 (x : Int)) (.map (some bm1)) rv (.map (some bm2)) (.int .i64 (lastW (acc.take j))) c16 c68 c69 c70) := ⟨hF⟩
  clear hF hu g10 g83 g84
  rw [g85]
  clear g85
  conv => arg 2; whnf
  rw [e4, e5, e7, e8, e9, e10, e11, e83, e84, e85]
  have HX : Hid (∀ a' w' τ' L' rv' cm' F1' F2' F3', Fr a' c0 (.pointer (some ⟨C.pb, 0, none⟩)) (.int .i64 (x : Int)) (.map (some bm1)) rv' (.map (some bm2)) (.int .i64 (lastW acc)) c16 c68 c69 c70 → S2 C w0 bm1 bm2 bm3 v4 v5 w' τ' L' rv' cm' F1' F2' F3' → Sem2 acc acc.length F1' F3' → L' ≤ L0 + acc.length → cm' ≤ 2 * acc.length → lenV rv' ≤ acc.length → RowsX C x acc.length w2 w' → Q (.exit 2) a' w') := ⟨hexit⟩
  have HR : Hid (∀ a' w', a'.tmps.size = 405 → a'.defers = [] → G a' 2 = .pointer none → G a' 3 = .bool false → Below w0.heap.size w0 w' → Q .ret a' w') := ⟨hret⟩
  have HS : Hid (S2 C w0 bm1 bm2 bm3 v4 v5 w τ L rv cm F1 F2 F3) := ⟨hS⟩
  have HM : Hid (Sem2 acc j F1 F3) := ⟨hsem⟩
  have HW : Hid (RowsX C x j w2 w) := ⟨hrows⟩
  clear hexit hret e4 e5 e7 e8 e9 e10 e11 e83 e84 e85 hsem hrows
  by_cases hlt : j < acc.length
  case neg =>
    obtain rfl : j = acc.length := by omega
    clear hlt hS
    go_wp2
    exact HX.out _ _ τ L rv cm F1 F2 F3 ⟨rfl, rfl, HF.out.g0, rfl, rfl, rfl, rfl, rfl, (by show Value.int .i64 (lastW (acc.take acc.length)) = _; rw [List.take_length]), HF.out.g16, HF.out.g68, HF.out.g69, HF.out.g70⟩ HS.out HM.out hLj hcm hrvl HW.out
  case pos =>
    obtain ⟨r, wr, hr⟩ : ∃ r wr, acc[j]? = some (r, wr) := ⟨acc[j].1, acc[j].2, by simp [hlt]⟩
    have hl := hlist.below hS.P.bel hlist.lt
    have hrn : r < C.n := hacc _ (List.mem_of_getElem? hr)
    obtain ⟨q0, q1⟩ := hl.cell hr
    have hix := run_ix2 bl acc.length acc.length j hlt
    have hld := load82 q0 q1
    have Hr : Hid (acc[j]? = some (r, wr)) := ⟨hr⟩
    obtain ⟨hw1, hw2⟩ := lastW_range (acc := acc.take j) (n := C.n) (fun y hy => hacc y (List.mem_of_mem_take hy))
    generalize hlw : lastW (acc.take j) = lw at HF hw1 hw2 ⊢
    clear hS hl q0 q1 hr hacc hlist
    go_upto_region 13 with (first | (refine wpList_load_run rfl 82 _ rfl _ _ rfl hld ?_) | (refine wpList_alloc_run rfl 82 rfl _ _ (alloc82 _) ?_) | (refine wpList_store_run rfl 82 _ _ rfl _ _ _ rfl rfl (store82 _ r wr) ?_))
    have hbv0 : (w.alloc (.cells #[.int .i64 (r : Int), .bool wr] 82)).heap[w.heap.size]? = some (.cells #[.int .i64 (r : Int), .bool wr] 82 (0, 0)) := heap_alloc_last w _
    have hS1 : S2 C w0 bm1 bm2 bm3 v4 v5 (w.alloc (.cells #[.int .i64 (r : Int), .bool wr] 82)) τ L rv cm F1 F2 F3 := HS.out.step (Stp.alloc _ _ _) (HS.out.P.alloc _) (Nat.le_refl _)
    have hW1 : RowsX C x j w2 (w.alloc (.cells #[.int .i64 (r : Int), .bool wr] 82)) := HW.out.k3 (K3.alloc _ _ _) HS.out.P.t2 (HS.out.P.ht.lt HS.out.P.t2)
    have nbv0 : τ w.heap.size = none := HS.out.P.ht.none_at (Nat.le_refl _)
    obtain ⟨y, hy⟩ : ∃ y : World, y = w.alloc (.cells #[.int .i64 (r : Int), .bool wr] 82) := ⟨_, rfl⟩
    obtain ⟨bv, hbveq⟩ : ∃ bv : Nat, bv = w.heap.size := ⟨_, rfl⟩
    rw [← hy] at hbv0 hS1 hW1 ⊢
    rw [← hbveq] at hbv0 nbv0 ⊢
    clear hy hbveq hld hix HS HW
    have HS1 : Hid (S2 C w0 bm1 bm2 bm3 v4 v5 y τ L rv cm F1 F2 F3) := ⟨hS1⟩
    have HW1 : Hid (RowsX C x j w2 y) := ⟨hW1⟩
    have kv0 : y.cell? ⟨bv, 0, none⟩ = some (.int .i64 (r : Int)) := by
      rw [cell_of_row y bv 0 _ _ _ hbv0]
      rfl
    have kv1 : y.cell? ⟨bv, 1, none⟩ = some (.bool wr) := by
      rw [cell_of_row y bv 1 _ _ _ hbv0]
      rfl
    have HB : Hid (y.heap[bv]? = some (.cells #[.int .i64 (r : Int), .bool wr] 82 (0, 0))) := ⟨hbv0⟩
    have HN : Hid (τ bv = none) := ⟨nbv0⟩
    have hfit : Fits (r : Int) := by unfold Fits; omega
    have hlk1 := (hS1.m1.map.look 50 3 (.int .i64 0) law3 Try.underlying50 zero3 rfl (kI_key hfit)).1
    obtain ⟨b2, hb2⟩ := hS1.m2.get (r : Int)
    obtain ⟨b3, hb3⟩ := hS1.m3.get (r : Int)
    have hlk2 : (Instr.lookup 88 (.map (some bm2)) (.int .i64 (r : Int)) false).run Try.prog y = .ok (.bool b2) y := by
      rw [← hb2]
      exact (hS1.m2.map.look 88 4 (.bool false) law3 Try.underlying88 zero4 rfl (kI_key hfit)).2
    have hlk3 : (Instr.lookup 88 (.map (some bm3)) (.int .i64 (r : Int)) false).run Try.prog y = .ok (.bool b3) y := by
      rw [← hb3]
      exact (hS1.m3.map.look 88 4 (.bool false) law3 Try.underlying88 zero4 rfl (kI_key hfit)).2
    have HF3 : Hid (b3 = false → F3 (r : Int) ≠ some (.bool true)) := ⟨fun e he => by rw [he, e] at hb3; cases hb3⟩
    clear hS1 hW1 hbv0 nbv0 hb2 hb3
    cases wr with
    | true =>
      obtain ⟨z1, ok1, hz1⟩ : ∃ (z : Int) (ok : Bool), (F1 (r : Int)).getD (.int .i64 0) = .int .i64 z ∧ (F1 (r : Int)).isSome = ok := by
        obtain ⟨z, hz, _⟩ := HS1.out.m1.get ⟨by omega, by omega⟩ (r : Int)
        exact ⟨z, _, hz, rfl⟩
      replace hlk1 : (Instr.lookup 50 (.map (some bm1)) (.int .i64 (r : Int)) true).run Try.prog y = .ok (.tuple #[.int .i64 z1, .bool ok1]) y := by
        rw [← hz1.1, ← hz1.2]
        exact hlk1
      clear hz1
      cases b3 with
      | true =>
        go_wp2_with (first | (at_lookup; refine wpList_look_run _ rfl 50 _ _ true rfl _ _ _ rfl rfl hlk1 ?_) | (at_lookup; refine wpList_look_run _ rfl 88 _ _ false rfl _ _ _ rfl rfl hlk3 ?_) | (at_lookup; go_must (refine wpList_look_run _ rfl 88 _ _ false rfl _ _ _ rfl rfl hlk2 ?_)))
        exact HR.out _ _ rfl rfl rfl rfl HS1.out.P.bel
      | false =>
        have HSem := HM.out.write Hr.out (HF3.out rfl)
        have HSm : Hid (Sem2 acc (j + 1) F1 F3) := ⟨HSem⟩
        clear HSem
        cases b2 with
        | true =>
          go_wp2_with (first | (at_lookup; refine wpList_look_run _ rfl 50 _ _ true rfl _ _ _ rfl rfl hlk1 ?_) | (at_lookup; refine wpList_look_run _ rfl 88 _ _ false rfl _ _ _ rfl rfl hlk3 ?_) | (at_lookup; go_must (refine wpList_look_run _ rfl 88 _ _ false rfl _ _ _ rfl rfl hlk2 ?_)))
          refine ⟨⟨j + 1, τ, L, rv, cm, F1, F2, F3, ⟨rfl, rfl, HF.out.g0, rfl, rfl, rfl, rfl, rfl, (congrArg (Value.int .i64) (lastW_write Hr.out).symm), HF.out.g16, HF.out.g68, HF.out.g69, HF.out.g70⟩, rfl, rfl, rfl, (by show Value.int .i64 ((j : Int) + 1) = _; simp), hlt, (HS1.out.more (Nat.le_refl _) (by omega)), HSm.out, (by omega), (by omega), (by omega), (HW1.out.more (by omega))⟩, ?_⟩
          show acc.length - (intOf (Value.int .i64 ((j : Int) + 1))).toNat < acc.length - (intOf (Value.int .i64 (j : Int))).toNat
          simp [intOf]
          omega

        | false =>
          obtain ⟨x1, hput, hM1, hg1⟩ := HS1.out.m2.map.put 88 4 law3 Try.underlying88 (by unfold maxLen; omega) kI_inj (kI_key hfit) (v := .bool true) rfl
          have HS2 : Hid (S2 C w0 bm1 bm2 bm3 v4 v5 x1 τ L rv (cm + 1) F1 (updG F2 (r : Int) (.bool true)) F3) := ⟨HS1.out.put2 _ _ hM1 hg1⟩
          have HW2 : Hid (RowsX C x j w2 x1) := ⟨HW1.out.same (hg1.block _ (HS1.out.P.ht.lt HS1.out.P.t2) (fun e => by cases e; have := HS1.out.P.t2; rw [HS1.out.m2.no] at this; cases this))⟩
          have hbx : x1.heap[bv]? = some (.cells #[.int .i64 (r : Int), .bool true] 82 (0, 0)) := by
            obtain ⟨es, c, hm⟩ := HS1.out.m2.map.isMap
            exact (hg1.block _ (row_lt HB.out) (by simpa using ne_of_obj HB.out hm (by simp))).trans HB.out
          have hput' : (Instr.mapUpdate 88 (.map (some bm2)) (.int .i64 (r : Int)) (.bool true)).run Try.prog y = .ok () x1 := hput
          clear hput hM1 hg1
          go_upto_region 23 with (first | (at_mapUpdate; go_must (refine wpList_put_run _ rfl 88 _ _ _ rfl _ _ _ x1 rfl rfl rfl hput' ?_)) | (first | (at_lookup; refine wpList_look_run _ rfl 50 _ _ true rfl _ _ _ rfl rfl hlk1 ?_) | (at_lookup; refine wpList_look_run _ rfl 88 _ _ false rfl _ _ _ rfl rfl hlk3 ?_) | (at_lookup; go_must (refine wpList_look_run _ rfl 88 _ _ false rfl _ _ _ rfl rfl hlk2 ?_))))
          refine reg23 C w0 x1 τ L v4 v5 HS2.out.P (by omega) bv r hrn (.bool true) hbx HN.out _ rfl rfl x hx rfl rfl _ ?_
          intro a' x2 τ' hsz hdf hout hP2 hst hrow
          have HS3 : Hid (S2 C w0 bm1 bm2 bm3 v4 v5 x2 τ' (L + 1) rv (cm + 1) F1 (updG F2 (r : Int) (.bool true)) F3) := ⟨HS2.out.step hst hP2 (Nat.le_succ _)⟩
          have HW3 : Hid (RowsX C x (j + 1) w2 x2) := ⟨by
            obtain ⟨z, row, hrw, hk, hq⟩ := hrow
            have hz := HW2.out.k3 hk HS2.out.P.t2 (HS2.out.P.ht.lt HS2.out.P.t2)
            rcases hq with rfl | ⟨g, c, rfl⟩
            · exact hz.more (Nat.le_succ _)
            · refine hz.set ?_ ?_
              · obtain ⟨A, hA, _⟩ := HS2.out.P.ht.blk _ _ _ HS2.out.P.t2
                exact ⟨A, _, (hk _ _ HS2.out.P.t2 (HS2.out.P.ht.lt HS2.out.P.t2)).trans hA⟩
              · obtain ⟨row', hr', hl'⟩ := HW2.out.row
                rw [hrw] at hr'
                cases hr'
                show lenV row + 1 ≤ j + 1
                omega⟩
          have hb' : x2.heap[bv]? = some (.cells #[.int .i64 (r : Int), .bool true] 82 (0, 0)) := (hst.keep _ HN.out (row_lt hbx)).trans hbx
          have kv0' : x2.cell? ⟨bv, 0, none⟩ = some (.int .i64 (r : Int)) := by
            rw [cell_of_row x2 bv 0 _ _ _ hb']
            rfl
          have HF' : Hid (Fr a' c0 (.pointer (some ⟨C.pb, 0, none⟩)) (.int .i64 (x : Int)) (.map (some bm1)) rv (.map (some bm2)) (.int .i64 lw) c16 c68 c69 c70) := ⟨hsz, hdf, (hout 0 (by decide)).trans HF.out.g0, hout 4 (by decide), hout 5 (by decide), hout 7 (by decide), hout 8 (by decide), hout 9 (by decide), hout 11 (by decide), (hout 16 (by decide)).trans HF.out.g16, (hout 68 (by decide)).trans HF.out.g68, (hout 69 (by decide)).trans HF.out.g69, (hout 70 (by decide)).trans HF.out.g70⟩
          have f10 : G a' 10 = .map (some bm3) := hout 10 (by decide)
          have f13 : G a' 13 = .pointer (some ⟨bv, 0, none⟩) := hout 13 (by decide)
          have f83 : G a' 83 = (.slice (some ⟨bl, 0, none⟩) acc.length acc.length) := hout 83 (by decide)
          have f84 : G a' 84 = .int .i64 (acc.length : Int) := hout 84 (by decide)
          have f85 : G a' 85 = .int .i64 (j : Int) := hout 85 (by decide)
          clear hsz hdf hout hP2 hst hrow hb' hbx HS1 HS2 HW1 HW2 HF HB hput' hlk1 hlk2 hlk3 kv0 kv1
          obtain ⟨u', rfl, hu⟩ := frame_any a' HF'.out.sz HF'.out.df
          have e13 := (hu 13).trans f13
          have e85 := (hu 85).trans f85
          clear hu f13 f85
          rw [e13, e85]
          clear e13 e85
          go_wp2
          refine ⟨⟨j + 1, τ', L + 1, rv, cm + 1, F1, (updG F2 (r : Int) (.bool true)), F3, ⟨rfl, rfl, HF'.out.g0, HF'.out.g4, HF'.out.g5, HF'.out.g7, HF'.out.g8, HF'.out.g9, (congrArg (Value.int .i64) (lastW_write Hr.out).symm), HF'.out.g16, HF'.out.g68, HF'.out.g69, HF'.out.g70⟩, f10, f83, f84, (by show Value.int .i64 ((j : Int) + 1) = _; simp), hlt, HS3.out, HSm.out, (by omega), (by omega), (by omega), HW3.out⟩, ?_⟩
          show acc.length - (intOf (Value.int .i64 ((j : Int) + 1))).toNat < acc.length - (intOf (Value.int .i64 (j : Int))).toNat
          simp [intOf]
          omega

    | false =>
      cases b2 with
      | true =>
        obtain ⟨z1, ok1, hz1⟩ : ∃ (z : Int) (ok : Bool), (F1 (r : Int)).getD (.int .i64 0) = .int .i64 z ∧ (F1 (r : Int)).isSome = ok := by
          obtain ⟨z, hz, _⟩ := HS1.out.m1.get ⟨by omega, by omega⟩ (r : Int)
          exact ⟨z, _, hz, rfl⟩
        replace hlk1 : (Instr.lookup 50 (.map (some bm1)) (.int .i64 (r : Int)) true).run Try.prog y = .ok (.tuple #[.int .i64 z1, .bool ok1]) y := by
          rw [← hz1.1, ← hz1.2]
          exact hlk1
        clear hz1
        by_cases hlr : lw = (r : Int)
        · have HSm : Hid (Sem2 acc (j + 1) F1 F3) := ⟨HM.out.own Hr.out (hlw.trans hlr)⟩
          go_wp2_with (first | (at_lookup; refine wpList_look_run _ rfl 50 _ _ true rfl _ _ _ rfl rfl hlk1 ?_) | (at_lookup; refine wpList_look_run _ rfl 88 _ _ false rfl _ _ _ rfl rfl hlk3 ?_) | (at_lookup; go_must (refine wpList_look_run _ rfl 88 _ _ false rfl _ _ _ rfl rfl hlk2 ?_)))
          refine ⟨⟨j + 1, τ, L, rv, cm, F1, F2, F3, ⟨rfl, rfl, HF.out.g0, rfl, rfl, rfl, rfl, rfl, (congrArg (Value.int .i64) ((lastW_read Hr.out).trans (hlw.trans hlr)).symm), HF.out.g16, HF.out.g68, HF.out.g69, HF.out.g70⟩, rfl, rfl, rfl, (by show Value.int .i64 ((j : Int) + 1) = _; simp), hlt, (HS1.out.more (Nat.le_refl _) (by omega)), HSm.out, (by omega), (by omega), (by omega), (HW1.out.more (by omega))⟩, ?_⟩
          show acc.length - (intOf (Value.int .i64 ((j : Int) + 1))).toNat < acc.length - (intOf (Value.int .i64 (j : Int))).toNat
          simp [intOf]
          omega

        · go_wp2_with (first | (at_lookup; refine wpList_look_run _ rfl 50 _ _ true rfl _ _ _ rfl rfl hlk1 ?_) | (at_lookup; refine wpList_look_run _ rfl 88 _ _ false rfl _ _ _ rfl rfl hlk3 ?_) | (at_lookup; go_must (refine wpList_look_run _ rfl 88 _ _ false rfl _ _ _ rfl rfl hlk2 ?_)))
          exact HR.out _ _ rfl rfl rfl rfl HS1.out.P.bel
      | false =>
        cases hF1 : F1 (r : Int) with
        | some v =>
          obtain ⟨z, rfl, _, _⟩ := HS1.out.m1.val _ _ hF1
          rw [hF1] at hlk1
          replace hlk1 : (Instr.lookup 50 (.map (some bm1)) (.int .i64 (r : Int)) true).run Try.prog y = .ok (.tuple #[.int .i64 z, .bool true]) y := hlk1
          by_cases hzl : z = lw
          · have HSm : Hid (Sem2 acc (j + 1) F1 F3) := ⟨HM.out.again Hr.out (by rw [hF1, hzl, hlw])⟩
            clear hF1
            go_wp2_with (first | (at_lookup; refine wpList_look_run _ rfl 50 _ _ true rfl _ _ _ rfl rfl hlk1 ?_) | (at_lookup; refine wpList_look_run _ rfl 88 _ _ false rfl _ _ _ rfl rfl hlk3 ?_) | (at_lookup; go_must (refine wpList_look_run _ rfl 88 _ _ false rfl _ _ _ rfl rfl hlk2 ?_)))
            refine ⟨⟨j + 1, τ, L, rv, cm, F1, F2, F3, ⟨rfl, rfl, HF.out.g0, rfl, rfl, rfl, rfl, rfl, (congrArg (Value.int .i64) ((lastW_read Hr.out).trans hlw).symm), HF.out.g16, HF.out.g68, HF.out.g69, HF.out.g70⟩, rfl, rfl, rfl, (by show Value.int .i64 ((j : Int) + 1) = _; simp), hlt, (HS1.out.more (Nat.le_refl _) (by omega)), HSm.out, (by omega), (by omega), (by omega), (HW1.out.more (by omega))⟩, ?_⟩
            show acc.length - (intOf (Value.int .i64 ((j : Int) + 1))).toNat < acc.length - (intOf (Value.int .i64 (j : Int))).toNat
            simp [intOf]
            omega

          · clear hF1
            go_wp2_with (first | (at_lookup; refine wpList_look_run _ rfl 50 _ _ true rfl _ _ _ rfl rfl hlk1 ?_) | (at_lookup; refine wpList_look_run _ rfl 88 _ _ false rfl _ _ _ rfl rfl hlk3 ?_) | (at_lookup; go_must (refine wpList_look_run _ rfl 88 _ _ false rfl _ _ _ rfl rfl hlk2 ?_)))
            exact HR.out _ _ rfl rfl rfl rfl HS1.out.P.bel
        | none =>
          rw [hF1] at hlk1
          replace hlk1 : (Instr.lookup 50 (.map (some bm1)) (.int .i64 (r : Int)) true).run Try.prog y = .ok (.tuple #[.int .i64 0, .bool false]) y := hlk1
          clear hF1
          obtain ⟨x1, hput, hM1, hg1⟩ := HS1.out.m1.map.put 50 3 law3 Try.underlying50 (by unfold maxLen; omega) kI_inj (kI_key hfit) (v := .int .i64 lw) rfl
          have HS2 : Hid (S2 C w0 bm1 bm2 bm3 v4 v5 x1 τ L rv (cm + 1) (updG F1 (r : Int) (.int .i64 lw)) F2 F3) := ⟨HS1.out.put1 _ _ ⟨hw1, hw2⟩ hM1 hg1⟩
          have HW2 : Hid (RowsX C x j w2 x1) := ⟨HW1.out.same (hg1.block _ (HS1.out.P.ht.lt HS1.out.P.t2) (fun e => by cases e; have := HS1.out.P.t2; rw [HS1.out.m1.no] at this; cases this))⟩
          have hbx : x1.heap[bv]? = some (.cells #[.int .i64 (r : Int), .bool false] 82 (0, 0)) := by
            obtain ⟨es, c, hm⟩ := HS1.out.m1.map.isMap
            exact (hg1.block _ (row_lt HB.out) (by simpa using ne_of_obj HB.out hm (by simp))).trans HB.out
          have kx0 : x1.cell? ⟨bv, 0, none⟩ = some (.int .i64 (r : Int)) := by
            rw [cell_of_row x1 bv 0 _ _ _ hbx]
            rfl
          have hput' : (Instr.mapUpdate 50 (.map (some bm1)) (.int .i64 (r : Int)) (.int .i64 lw)).run Try.prog y = .ok () x1 := hput
          clear hput hM1 hg1
          go_upto_region 16 with (first | (at_mapUpdate; go_must (refine wpList_put_run _ rfl 50 _ _ _ rfl _ _ _ x1 rfl rfl rfl hput' ?_)) | (at_builtin; go_must (refine list_app1 (HS2.out.P.alloc _).ht HS2.out.rv (by omega) _ r hrn (heap_alloc_new _ _) rfl (.tmp 100) (.tmp 103) rfl 1 rfl rfl ?_; intro g c y1 τ2 hT hSl hSt hk; have HS3 : Hid (S2 C w0 bm1 bm2 bm3 v4 v5 y1 τ2 (L + 1) (.slice (some ⟨g, 0, none⟩) (lenV rv + 1) c) (cm + 1) (updG F1 (r : Int) (.int .i64 lw)) F2 F3) := ⟨(HS2.out.step ((Stp.alloc _ _ _).trans hSt) ((HS2.out.P.alloc _).step hSt hT (Nat.le_succ _)) (Nat.le_succ _)).setRv hSl⟩; have HW3 : Hid (RowsX C x j w2 y1) := ⟨HW2.out.k3 ((K3.alloc _ _ _).trans (Stp.alloc _ _ _) hk) HS2.out.P.t2 (HS2.out.P.ht.lt HS2.out.P.t2)⟩; clear hT hSl hSt hk)) | (first | (at_lookup; refine wpList_look_run _ rfl 50 _ _ true rfl _ _ _ rfl rfl hlk1 ?_) | (at_lookup; refine wpList_look_run _ rfl 88 _ _ false rfl _ _ _ rfl rfl hlk3 ?_) | (at_lookup; go_must (refine wpList_look_run _ rfl 88 _ _ false rfl _ _ _ rfl rfl hlk2 ?_))))
          clear hput' hlk1 hlk2 hlk3 kv0 kv1 kx0 hbx HS1 HS2 HW1 HW2 HB
          by_cases h0 : 0 ≤ lw
          · have hfl : Fits lw := by unfold Fits; omega
            obtain ⟨x2, hput, hM1, hg1⟩ := HS3.out.m3.map.put 88 4 law3 Try.underlying88 (by unfold maxLen; omega) kI_inj (kI_key hfl) (v := .bool true) rfl
            have HS4 : Hid (S2 C w0 bm1 bm2 bm3 v4 v5 x2 τ2 (L + 1) (.slice (some ⟨g, 0, none⟩) (lenV rv + 1) c) (cm + 1 + 1) (updG F1 (r : Int) (.int .i64 lw)) F2 (updG F3 lw (.bool true))) := ⟨HS3.out.put3 _ _ hM1 hg1⟩
            have HW4 : Hid (RowsX C x j w2 x2) := ⟨HW3.out.same (hg1.block _ (HS3.out.P.ht.lt HS3.out.P.t2) (fun e => by cases e; have := HS3.out.P.t2; rw [HS3.out.m3.no] at this; cases this))⟩
            have hput' : (Instr.mapUpdate 88 (.map (some bm3)) (.int .i64 lw) (.bool true)).run Try.prog y1 = .ok () x2 := hput
            have HSm : Hid (Sem2 acc (j + 1) (updG F1 (r : Int) (.int .i64 lw)) (updG F3 lw (.bool true))) := ⟨by rw [← hlw]; exact HM.out.first_some Hr.out⟩
            clear hput hM1 hg1
            go_wp2_with (at_mapUpdate; go_must (refine wpList_put_run _ rfl 88 _ _ _ rfl _ _ _ x2 rfl rfl rfl hput' ?_))
            refine ⟨⟨j + 1, τ2, L + 1, (.slice (some ⟨g, 0, none⟩) (lenV rv + 1) c), cm + 1 + 1, (updG F1 (r : Int) (.int .i64 lw)), F2, (updG F3 lw (.bool true)), ⟨rfl, rfl, HF.out.g0, rfl, rfl, rfl, rfl, rfl, (congrArg (Value.int .i64) ((lastW_read Hr.out).trans hlw).symm), HF.out.g16, HF.out.g68, HF.out.g69, HF.out.g70⟩, rfl, rfl, rfl, (by show Value.int .i64 ((j : Int) + 1) = _; simp), hlt, HS4.out, HSm.out, (by omega), (by omega), (by show lenV rv + 1 ≤ j + 1; omega), (HW4.out.more (by omega))⟩, ?_⟩
            show acc.length - (intOf (Value.int .i64 ((j : Int) + 1))).toNat < acc.length - (intOf (Value.int .i64 (j : Int))).toNat
            simp [intOf]
            omega

          · have HSm : Hid (Sem2 acc (j + 1) (updG F1 (r : Int) (.int .i64 lw)) F3) := ⟨by rw [← hlw]; exact HM.out.first_none Hr.out (by omega)⟩
            go_wp2
            refine ⟨⟨j + 1, τ2, L + 1, (.slice (some ⟨g, 0, none⟩) (lenV rv + 1) c), cm + 1, (updG F1 (r : Int) (.int .i64 lw)), F2, F3, ⟨rfl, rfl, HF.out.g0, rfl, rfl, rfl, rfl, rfl, (congrArg (Value.int .i64) ((lastW_read Hr.out).trans hlw).symm), HF.out.g16, HF.out.g68, HF.out.g69, HF.out.g70⟩, rfl, rfl, rfl, (by show Value.int .i64 ((j : Int) + 1) = _; simp), hlt, HS3.out, HSm.out, (by omega), (by omega), (by show lenV rv + 1 ≤ j + 1; omega), (HW3.out.more (by omega))⟩, ?_⟩
            show acc.length - (intOf (Value.int .i64 ((j : Int) + 1))).toNat < acc.length - (intOf (Value.int .i64 (j : Int))).toNat
            simp [intOf]
            omega

end Go.Proofs.Qxb6001364a
