import Derived.Test.Qxb6003655aGr
import Derived.Test.Qxb6003655aClone
import Derived.Deep.DeepMust
namespace Go.Proofs.Qxb6003655a
open Go.ChangeShapes Go.WideShapes Go.ChangeAt Go.RowKit Go.Maps

/-- What the file's own writes leave alone: every block below base but the struct and the texts' map. -/
structure Keep (base bg bt : Nat) (w w' : World) : Prop where
  os : w'.os = w.os
  tape : w'.tape = w.tape
  output : w'.output = w.output
  size : w.heap.size ≤ w'.heap.size
  block : ∀ k, k < base → k ≠ bg → k ≠ bt → w'.heap[k]? = w.heap[k]?

theorem Keep.refl (base bg bt : Nat) (w : World) : Keep base bg bt w w := ⟨rfl, rfl, rfl, Nat.le_refl _, fun _ _ _ _ => rfl⟩
theorem Keep.trans {base bg bt : Nat} {a b c : World} (h : Keep base bg bt a b) (k : Keep base bg bt b c) : Keep base bg bt a c :=
  ⟨k.os.trans h.os, k.tape.trans h.tape, k.output.trans h.output, Nat.le_trans h.size k.size, fun i h1 h2 h3 => (k.block i h1 h2 h3).trans (h.block i h1 h2 h3)⟩
theorem Keep.of_below {base bg bt B : Nat} {w w' : World} (h : Below B w w') (hB : base ≤ B) : Keep base bg bt w w' :=
  ⟨h.os, h.tape, h.output, h.size, fun i h1 _ _ => h.block i (by omega)⟩
theorem Keep.of_grown {base bg bt : Nat} {w w' : World} {row : Option Nat} (h : w.grownBy w' row) (hB : base ≤ w.heap.size) (hr : ∀ k, row = some k → base ≤ k ∨ k = bg ∨ k = bt) : Keep base bg bt w w' :=
  ⟨h.os, h.tape, h.output, h.size, fun i h1 h2 h3 => h.block i (by omega) (fun e => by rcases hr i e.symm with h | h | h <;> omega)⟩
theorem Keep.setCell {base bg bt : Nat} (w : World) (a : Addr) (v : Value) (h : base ≤ a.block ∨ a.block = bg ∨ a.block = bt) : Keep base bg bt w (w.setCell a v) :=
  ⟨rfl, rfl, rfl, by simp [World.setCell], fun i h1 h2 h3 => heap_setCell_other w a i v (by rcases h with h | h | h <;> omega)⟩
theorem Keep.below {base bg bt B : Nat} {w w' : World} (h : Keep base bg bt w w') (hB : B ≤ base) (h1 : B ≤ bg) (h2 : B ≤ bt) : Below B w w' :=
  ⟨h.os, h.tape, h.output, h.size, fun k hk => h.block k (by omega) (by omega) (by omega)⟩

theorem grown_of_below {w w' : World} (h : Below w.heap.size w w') : w.grownBy w' none := ⟨h.os, h.tape, h.output, h.size, fun k hk _ => h.block k hk⟩
/-- An owned row in another world where its block is the same. -/
theorem owns_same {w w' : World} {base : Nat} {e : TypeId} {size : Nat} {v : Value} {n : Nat} {xs : List Value} (h : w.ownsRow base e size v n xs) (hs : ∀ k, v.ownBlock = some k → w'.heap[k]? = w.heap[k]?) : w'.ownsRow base e size v n xs := by
  refine ⟨h.1, ?_⟩
  rcases h.2 with hn | ⟨g, cap, cur, rfl, hb, hgg, rest⟩
  · exact .inl hn
  · exact .inr ⟨g, cap, cur, rfl, hb, (hs g rfl).trans hgg, rest⟩
/-- An owned row's block. -/
theorem owns_block {w : World} {base : Nat} {e : TypeId} {size : Nat} {v : Value} {n : Nat} {xs : List Value} (h : w.ownsRow base e size v n xs) {k : Nat} (hk : v.ownBlock = some k) : ∃ cur, w.heap[k]? = some (.cells cur e (0, 0)) := by
  rcases h.2 with ⟨rfl, _⟩ | ⟨g, cap, cur, rfl, hb, hgg, rest⟩
  · cases hk
  · simp [Value.ownBlock] at hk; subst hk; exact ⟨cur, hgg⟩

/-- A block of another element type is none that the owned value leads to. -/
theorem ne_owned {w : World} {base : Nat} {e t : TypeId} {size : Nat} {v : Value} {n : Nat} {xs : List Value} {k : Nat} {A : Array Value} (h : w.ownsRow base e size v n xs) (hk : w.heap[k]? = some (.cells A t (0, 0))) (ht : t ≠ e) : some k ≠ v.ownBlock := by
  intro e0
  obtain ⟨cur, hc⟩ := owns_block h e0.symm
  rw [hk] at hc
  simp at hc
  exact ht hc.2
theorem ne_owned_map {w : World} {base : Nat} {e : TypeId} {size : Nat} {v : Value} {n : Nat} {xs : List Value} {k : Nat} {es : Array MapEntry} {c : Nat} (h : w.ownsRow base e size v n xs) (hk : w.heap[k]? = some (.map es c)) : some k ≠ v.ownBlock := by
  intro e0
  obtain ⟨cur, hc⟩ := owns_block h e0.symm
  rw [hk] at hc
  simp at hc

theorem intern_mid {w1 w2 : World} {base bg : Nat} {A : Array Value} {v : Value} {n : Nat} {xs : List Value} {o : Obj} (hb : w1.heap[bg]? = some (.cells A 44 (0, 0))) (hv : w1.ownsRow base 9 1 v n xs) (hg : (w1.alloc o).grownBy w2 v.ownBlock) : w2.heap[bg]? = some (.cells A 44 (0, 0)) := by
  rw [hg.block bg (by have := row_lt hb; simp; omega) (ne_owned hv hb (by decide)), Below.heap_alloc _ _ _ (row_lt hb)]
  exact hb
theorem intern_mid_map {w1 w2 : World} {base bt m : Nat} {f : ByteArray → Option Int} {v : Value} {n : Nat} {xs : List Value} {o : Obj} (hM : MapF w1 bt m f) (hv : w1.ownsRow base 9 1 v n xs) (hg : (w1.alloc o).grownBy w2 v.ownBlock) : MapF w2 bt m f := by
  obtain ⟨es, c, hb⟩ := hM.isMap
  exact hM.same (by rw [hg.block bt (by have := hM.lt; simp; omega) (ne_owned_map hv hb), Below.heap_alloc _ _ _ hM.lt])

theorem Try.info52 : (Try.prog.info? 52).map (fun i => (i.zero, i.size, i.bytes)) = some (some (.slice none 0 0), 1, 24) := by kernel_rfl

/-- A block by its object. -/
theorem ne_of_obj {w : World} {k g : Nat} {o o' : Obj} (h : w.heap[k]? = some o) (h' : w.heap[g]? = some o') (hne : o ≠ o') : k ≠ g := by
  intro e
  subst e
  rw [h] at h'
  cases h'
  exact hne rfl

/-- A row of another block is the same. -/
theorem Chunks.same {w w' : World} {base : Nat} {gs : List Nat} {ms : List Mk} (h : Chunks w base gs ms) (hs : ∀ (g : Nat) (A : Array Value), w.heap[g]? = some (.cells A 48 (0, 0)) → w'.heap[g]? = w.heap[g]?) : Chunks w' base gs ms :=
  ⟨h.len, h.nodup, h.low, fun c g hg => by
    obtain ⟨cur, h1, h2⟩ := h.row c g hg
    exact ⟨cur, by rw [hs g cur h1]; exact h1, h2⟩⟩

theorem interned {w w1 w2 w3 : World} {o : Obj} {base bg bf bt : Nat} {ms : List Mk} {ts : List ByteArray} {s : ByteArray} {mv v : Value} {gs : List Nat} {f : ByteArray → Option Int} {g cap' : Nat}
    (hG : Gr w base bg bf bt ms ts)
    (hb : w.heap[bg]? = some (.cells #[.map (some bf), mv, .int .i32 ms.length, v, .map (some bt), .int .i64 0] 44 (0, 0)))
    (hmv : w.ownsRow base 52 1 mv gs.length (chunkVals gs ms.length)) (hv : w.ownsRow base 9 1 v ts.length (ts.map Value.string)) (hC : Chunks w base gs ms)
    (hF : MapF w bt ts.length f) (hfi : ∀ s c, f s = some c → ∃ i : Nat, c = i ∧ ts[i]? = some s)
    (hb1 : Below w.heap.size w w1) (hgrow : (w1.alloc o).grownBy w2 v.ownBlock)
    (hown : w2.ownsRow base 9 1 (.slice (some ⟨g, 0, none⟩) (ts.length + 1) cap') (ts.length + 1) (ts.map Value.string ++ [.string s]))
    (hM3 : MapF w3 bt (ts.length + 1) (upd f s ts.length)) (hg3 : (w2.setCell ⟨bg, 3, none⟩ (.slice (some ⟨g, 0, none⟩) (ts.length + 1) cap')).grownBy w3 (some bt)) :
    Gr w3 base bg bf bt ms (ts ++ [s]) ∧ Keep base bg bt w w3 := by
  obtain ⟨ltg, ltf, ltt, neq, big, _, _⟩ := hG
  obtain ⟨es, cl, hbt⟩ := hF.isMap
  have hs1 : w.heap.size ≤ w1.heap.size := hb1.size
  have hs2 : w1.heap.size + 1 ≤ w2.heap.size := by have := hgrow.size; simpa using this
  have hs3 : w2.heap.size ≤ w3.heap.size := by have := hg3.size; simpa [World.setCell] using this
  have hA : ∀ k, k < w.heap.size → some k ≠ v.ownBlock → w2.heap[k]? = w.heap[k]? := fun k hk hn => by
    rw [hgrow.block k (by simp; omega) hn, Below.heap_alloc _ _ _ (by omega), hb1.block k hk]
  have hB : ∀ k, k < w.heap.size → k ≠ bg → k ≠ bt → some k ≠ v.ownBlock → w3.heap[k]? = w.heap[k]? := fun k hk h1 h2 h3 => by
    rw [hg3.block k (by simp [World.setCell]; omega) (by simpa using h2), heap_setCell_other _ _ _ _ h1, hA k hk h3]
  have hbg2 : w2.heap[bg]? = some (.cells #[.map (some bf), mv, .int .i32 ms.length, v, .map (some bt), .int .i64 0] 44 (0, 0)) := by
    rw [hA bg (row_lt hb) (ne_owned hv hb (by decide))]; exact hb
  have hbt2 : w2.heap[bt]? = some (.map es cl) := by rw [hA bt (row_lt hbt) (ne_owned_map hv hbt)]; exact hbt
  have hgt : bg ≠ bt := ne_of_obj hb hbt (by simp)
  have hbg3 : w3.heap[bg]? = some (.cells #[.map (some bf), mv, .int .i32 ms.length, .slice (some ⟨g, 0, none⟩) (ts.length + 1) cap', .map (some bt), .int .i64 0] 44 (0, 0)) := by
    rw [hg3.block bg (by simp [World.setCell]; have := row_lt hbg2; omega) (by simpa using hgt), heap_setCell_same _ _ _ _ _ _ hbg2]
    rfl
  have hmap : (ts ++ [s]).map Value.string = ts.map Value.string ++ [.string s] := by simp
  refine ⟨⟨ltg, ltf, ltt, neq, by omega, ⟨mv, _, gs, by simpa using hbg3, ?_, ?_, ?_⟩, _, by simpa using hM3, ?_⟩, ?_⟩
  · refine owns_same hmv fun k hk => ?_
    obtain ⟨cur, hc⟩ := owns_block hmv hk
    exact hB k (row_lt hc) (ne_of_obj hc hb (by simp)) (ne_of_obj hc hbt (by simp)) (ne_owned hv hc (by decide))
  · rw [hmap]
    have hg2 : ∃ cur, w2.heap[g]? = some (.cells cur 9 (0, 0)) := owns_block hown rfl
    obtain ⟨cur, hc⟩ := hg2
    simp only [List.length_append, List.length_singleton]
    refine owns_same hown fun k hk => ?_
    have : k = g := by simpa [Value.ownBlock] using hk.symm
    subst this
    rw [hg3.block k (by simp [World.setCell]; exact row_lt hc) (by simpa using ne_of_obj hc hbt2 (by simp)), heap_setCell_other _ _ _ _ (ne_of_obj hc hbg2 (by simp))]
  · refine hC.same fun g' A hg' => ?_
    exact hB g' (row_lt hg') (ne_of_obj hg' hb (by simp)) (ne_of_obj hg' hbt (by simp)) (ne_owned hv hg' (by decide))
  · intro t c hc
    by_cases ht : t = s
    · subst ht
      rw [upd_same] at hc
      cases hc
      exact ⟨ts.length, rfl, by simp⟩
    · rw [upd_other _ _ ht] at hc
      obtain ⟨i, rfl, hi⟩ := hfi t c hc
      exact ⟨i, rfl, by rw [List.getElem?_append_left (List.getElem?_eq_some_iff.1 hi).1]; exact hi⟩
  · refine ⟨?_, ?_, ?_, by omega, fun k h1 h2 h3 => hB k (by omega) h2 h3 (fun e => ?_)⟩
    · rw [hg3.os, show (w2.setCell _ _).os = w2.os from rfl, hgrow.os]; exact hb1.os
    · rw [hg3.tape, show (w2.setCell _ _).tape = w2.tape from rfl, hgrow.tape]; exact hb1.tape
    · rw [hg3.output, show (w2.setCell _ _).output = w2.output from rfl, hgrow.output]; exact hb1.output
    · have := (hv.lt k e.symm).1
      omega

set_option maxHeartbeats 1000000 in
theorem intern_any (w : World) (base bg bf bt : Nat) (ms : List Mk) (ts : List ByteArray) (s : ByteArray) (hG : Gr w base bg bf bt ms ts) (hs : s.size ≤ 1048576) (hl : ts.length < 65536) :
    Calls Try.prog 14 #[.pointer (some ⟨bg, 0, none⟩), .string s] w fun e w' => ∃ (i : Nat) (ts' : List ByteArray), e = .returned (.int .i32 i) ∧ Gr w' base bg bf bt ms ts' ∧ ts <+: ts' ∧ ts'.length ≤ ts.length + 1 ∧ ts'[i]? = some s ∧ Keep base bg bt w w' := by
  obtain ⟨ltg, ltf, ltt, neq, big, ⟨mv, tv, gs, hb, hmv, htv, hC⟩, f, hF, hfi⟩ := id hG
  have c4 : w.cell? ⟨bg, 4, none⟩ = some (.map (some bt)) := by rw [cell_of_row w _ _ _ _ _ hb]; rfl
  cases hf : f s with
  | some c =>
    obtain ⟨i, rfl, hi⟩ := hfi s c hf
    clear hb hmv htv hC hfi
    go_enter Try.func14, Try.ntmps14
    go_wp2_with (at_lookup; refine wpList_lookF _ rfl _ _ rfl bt ts.length f rfl hF s rfl (by unfold maxLen; omega) ?_)
    go_ret
    exact ⟨i, ts, rfl, hG, List.prefix_refl _, Nat.le_succ _, hi, Keep.refl _ _ _ _⟩
  | none =>
    obtain ⟨i0, hi0, hz0, hz1, hz2⟩ := info_parts Try.info9
    have c3 : w.cell? ⟨bg, 3, none⟩ = some tv := by rw [cell_of_row w _ _ _ _ _ hb]; rfl
    obtain ⟨ao, cap, htv'⟩ : ∃ ao cap, tv = .slice ao ts.length cap := by
      rcases htv.2 with ⟨rfl, h0⟩ | ⟨g, cap, _, rfl, _⟩
      · exact ⟨none, 0, by rw [h0]⟩
      · exact ⟨_, _, rfl⟩
    subst htv'
    go_enter Try.func14, Try.ntmps14
    go_wp2_with (at_lookup; refine wpList_lookF _ rfl _ _ rfl bt ts.length f rfl hF s rfl (by unfold maxLen; omega) ?_)
    refine (clone_any s w (by omega)).mono ?_
    rintro e w1 ⟨rfl, hb1⟩
    have hg1 := grown_of_below hb1
    have hbB : bg < w.heap.size := by omega
    have H1 : Hid (w1.heap[bg]? = _) := (hb1.block bg hbB).trans hb
    have htv1 := owns_same (w' := w1) htv (fun k hk => hb1.block k (htv.lt k hk).2)
    have c3 : w1.cell? ⟨bg, 3, none⟩ = some (.slice ao ts.length cap) := by rw [cell_of_row w1 _ _ _ _ _ H1.out]; rfl
    have hM1 : MapF w1 bt ts.length f := hF.grown hg1 (by simp)
    have hne : bt ≠ bg := by
      obtain ⟨es, c, hm⟩ := hF.isMap
      intro e
      rw [e, hb] at hm
      simp at hm
    go_wp2_with (first | (at_builtin; go_must (refine wpList_append_lies _ rfl _ _ 22 rfl base 9 i0 (.string ⟨#[]⟩) 1 16 Try.underlying22 hi0 hz0 hz1 hz2 rfl (by decide) _ ts.length (ts.map Value.string) rfl (htv1.alloc _) ⟨w1.heap.size, 0, none⟩ 1 1 [.string s] rfl rfl (cell_one_new _ _ _) (by simp [Value.oneCell']) (by decide) (by unfold maxLen; omega) (by omega) (by have := hb1.size; simp; omega) (w1.heap.size + 1) (by simp) ?_; intro g cap' w2 hown hgrow hat hlt; have H2 : Hid (w2.heap[bg]? = _) := intern_mid H1.out htv1 hgrow; have c3' : w2.cell? ⟨bg, 3, none⟩ = some (.slice ao ts.length cap) := (by rw [cell_of_row w2 _ _ _ _ _ H2.out]; try rfl); have c4' : w2.cell? ⟨bg, 4, none⟩ = some (.map (some bt)) := (by rw [cell_of_row w2 _ _ _ _ _ H2.out]; try rfl); have f3' : w2.frozen? ⟨bg, 3, none⟩ = false := frozen_of_row w2 _ _ _ _ H2.out)) | (at_mapUpdate; go_must (refine wpList_putF _ rfl _ _ _ rfl bt ts.length f rfl ((intern_mid_map hM1 htv1 hgrow).same (heap_setCell_other _ _ _ _ hne)) (by unfold maxLen; omega) s rfl (by unfold maxLen; omega) ts.length rfl (WalkArith.wf_i32 (by omega)) ?_; intro w3 hM3 hg3)))
    go_ret
    have R := interned hG hb hmv htv hC hF hfi hb1 hgrow hown hM3 hg3
    exact ⟨ts.length, ts ++ [s], rfl, R.1, List.prefix_append _ _, by simp, by simp, R.2⟩

/-- ZZIntern passes on. -/
theorem zzIntern_any (w : World) (base bg bf bt : Nat) (ms : List Mk) (ts : List ByteArray) (s : ByteArray) (hG : Gr w base bg bf bt ms ts) (hs : s.size ≤ 1048576) (hl : ts.length < 65536) :
    Calls Try.prog 10 #[.pointer (some ⟨bg, 0, none⟩), .string s] w fun e w' => ∃ (i : Nat) (ts' : List ByteArray), e = .returned (.int .i32 i) ∧ Gr w' base bg bf bt ms ts' ∧ ts <+: ts' ∧ ts'.length ≤ ts.length + 1 ∧ ts'[i]? = some s ∧ Keep base bg bt w w' := by
  go_enter Try.func10, Try.ntmps10
  go_wp2_with fail
  refine (intern_any w base bg bf bt ms ts s hG hs hl).mono ?_
  rintro e w1 ⟨i, ts', rfl, h1, h2, h3, h4, h5⟩
  go_wp2
  go_ret
  exact ⟨i, ts', rfl, h1, h2, h3, h4, h5⟩
end Go.Proofs.Qxb6003655a
