import Derived.Test.Qxb6001364aRegB
namespace Go.Proofs.Qxb6001364a
open Go.ChangeShapes Go.WideShapes Go.ChangeAt Go.RowKit Go.Maps

theorem srcV_int {w : World} {τ : Tags} {bm cm : Nat} {F : Int → Option Value} {lo hi : Int} (h : MIn w τ bm cm F lo hi) (x : Int) : ∃ s : Int, srcV F x = .int .i64 s := by
  unfold srcV
  cases hf : F x with
  | none => exact ⟨_, rfl⟩
  | some v =>
    obtain ⟨z, rfl, _⟩ := h.val x v hf
    exact ⟨z, rfl⟩

set_option maxRecDepth 100000 in
theorem reg59 (C : PC) (w0 x1 : World) (τ : Tags) (LL : Nat) (v4 v5 : Value) (hP : PSt C w0 x1 τ LL v4 v5) (bc bm4 cm4 : Nat) (F4 : Int → Option Value) (lo hi : Int) (hM4 : MIn x1 τ bm4 cm4 F4 lo hi) (hbc : x1.heap[bc]? = some (.cells #[.map (some bm4)] 50 (0, 0)))
    (a : Act) (hsz : a.tmps.size = 405) (g4 : G a 4 = .pointer (some ⟨C.pb, 0, none⟩)) (x : Nat) (hx : x < C.k) (g5 : G a 5 = .int .i64 (x : Int)) (g24 : G a 24 = .func (.func 43) #[] #[.pointer (some ⟨bc, 0, none⟩)]) (Q : Exit → Act → World → Prop)
    (hK : ∀ a' x2, a'.tmps.size = a.tmps.size → a'.defers = a.defers → (∀ s, s < 320 ∨ 320 + 8 ≤ s → G a' s = G a s) → PSt C w0 x2 τ LL v4 v5 → Stp τ x1 τ x2 → K3 τ x1 x2 → Q .normal a' x2) : Code.wp Try.prog (regOf Try.f38 59) Q a x1 := by
  obtain ⟨s, hs⟩ := srcV_int hM4 (-1)
  have hix := run_ix 22 3 C.b3 C.k C.k x hx Try.underlying22 Try.cell3
  have hcl := src_any (-1) (by unfold Fits; omega) bc bm4 cm4 F4 x1.drew hbc (hM4.map.same rfl)
  rw [hs] at hcl
  obtain ⟨u, hu, _, fu⟩ := hP.ht.cell hP.t3 rfl (i := x) hx
  conv => arg 2; whnf
  refine region_sto x1 a 320 8 (fun j => [(.pointer (some ⟨C.pb, 0, none⟩) : Value), .pointer (some ⟨C.pb, 0, none⟩), .pointer (some ⟨C.pb, 3, none⟩), .slice (some ⟨C.b3, 0, none⟩) C.k C.k, .int .i64 (x : Int), .func (.func 43) #[] #[.pointer (some ⟨bc, 0, none⟩)], .int .i64 s, .pointer (some ⟨C.b3, x, none⟩)].getD j undef) (by omega) (by kernel_rfl) (by kernel_rfl) (by kernel_rfl) (x1.drew.setCell ⟨C.b3, x, none⟩ (.int .i64 s)) ?_ ?_ ?_ (fun a' h1 h2 h3 => hK a' _ h1 h2 h3 (hP.drew.put hP.t3 x ⟨s, rfl⟩) ((Stp.drew τ x1).trans (Stp.put hP.t3 _)) (K3.put (w := x1.drew) hP.t3 (show (0 : Nat) ≠ 3 by decide) _))
  · intro j hj
    obtain rfl | rfl | rfl | rfl | rfl | rfl | rfl | rfl : j = 0 ∨ j = 1 ∨ j = 2 ∨ j = 3 ∨ j = 4 ∨ j = 5 ∨ j = 6 ∨ j = 7 := by omega
    all_goals kernel_rfl
  · intro j o ho hj L a' hS hdep K hK
    have e : ∀ k, k < 8 → k ≠ 8 → waits _ j k = true → a'.eval (.tmp (320 + k)) = _ := fun k hk hn hw => hS.ins k hk hn (hdep k hw)
    have eo : ∀ s, (s < 320 ∨ 320 + 8 ≤ s) → a'.eval (.tmp s) = G a s := hS.out
    obtain rfl | rfl | rfl | rfl | rfl | rfl | rfl | rfl : j = 0 ∨ j = 1 ∨ j = 2 ∨ j = 3 ∨ j = 4 ∨ j = 5 ∨ j = 6 ∨ j = 7 := by omega
    all_goals obtain rfl := Option.some.inj ho
    · exact wp_val (ex_move (.tmp 4) rfl ((eo 4 (Or.inl (by decide))).trans g4)) hK
    · exact wp_val (ex_nil (.tmp 320) rfl (e 0 (by decide) (by decide) (by kernel_rfl))) hK
    · exact wp_val (ex_field58 (.tmp 321) 3 (by decide) rfl (e 1 (by decide) (by decide) (by kernel_rfl))) hK
    · exact wp_val (ex_load 22 (.tmp 322) rfl agg22 (e 2 (by decide) (by decide) (by kernel_rfl)) (hP.drew.cell 3)) hK
    · exact wp_val (ex_move (.tmp 5) rfl ((eo 5 (Or.inl (by decide))).trans g5)) hK
    · exact wp_val (ex_move (.tmp 24) rfl ((eo 24 (Or.inl (by decide))).trans g24)) hK
    · exact wp_enter (ex_close (.tmp 325) (.const (.int .i64 (-1))) rfl (e 5 (by decide) (by decide) (by kernel_rfl)) rfl) hcl hK
    · exact wp_val (ex_index 22 (.tmp 323) (.tmp 324) rfl (e 3 (by decide) (by decide) (by kernel_rfl)) (e 4 (by decide) (by decide) (by kernel_rfl)) (hix _)) hK
  · intro o ho L a' hS hdep
    obtain rfl := Option.some.inj ho
    exact ex_storeI 3 (.tmp 327) (.tmp 326) rfl Try.cell3 (hS.ins 7 (by decide) (by decide) (hdep 7 (by kernel_rfl))) (hS.ins 6 (by decide) (by decide) (hdep 6 (by kernel_rfl))) hu fu

set_option maxRecDepth 100000 in
theorem reg63 (C : PC) (w0 x1 : World) (τ : Tags) (LL : Nat) (v4 v5 : Value) (hP : PSt C w0 x1 τ LL v4 v5) (hL : LL < 1099511627776) (hn : C.n ≤ 65536) (bc bm4 cm4 : Nat) (F4 : Int → Option Value) (lo hi : Int) (hM4 : MIn x1 τ bm4 cm4 F4 lo hi) (hbc : x1.heap[bc]? = some (.cells #[.map (some bm4)] 50 (0, 0))) (nbc : τ bc = none)
    (a : Act) (hsz : a.tmps.size = 405) (g4 : G a 4 = .pointer (some ⟨C.pb, 0, none⟩)) (x i : Nat) (g5 : G a 5 = .int .i64 (x : Int)) (g26 : G a 26 = .int .i64 (i : Int)) (hin : i < C.n) (g24 : G a 24 = .func (.func 43) #[] #[.pointer (some ⟨bc, 0, none⟩)]) (Q : Exit → Act → World → Prop)
    (hK : ∀ a' x2 τ', a'.tmps.size = a.tmps.size → a'.defers = a.defers → (∀ s, s < 340 ∨ 340 + 20 ≤ s → G a' s = G a s) → PSt C w0 x2 τ' (LL + 1) v4 v5 → Stp τ x1 τ' x2 → K3 τ x1 x2 → Q .normal a' x2) : Code.wp Try.prog (regOf Try.f38 63) Q a x1 := by
  obtain ⟨s, hs⟩ := srcV_int hM4 (i : Int)
  obtain ⟨row, hrow, okr, frow⟩ := hP.ht.cell hP.t1 rfl (i := i) hin
  have hix := run_ix 56 61 C.b1 C.n C.n i hin Try.underlying56 Try.cell61
  conv => arg 2; whnf
  refine region_app C w0 x1 τ LL v4 v5 hP a 340 20 17 18 4 (lenV row + 1) C.b1 i 5 C.n (fun j => [(.pointer (some ⟨C.pb, 0, none⟩) : Value), .pointer (some ⟨C.pb, 0, none⟩), .pointer (some ⟨C.pb, 1, none⟩), .slice (some ⟨C.b1, 0, none⟩) C.n C.n, .int .i64 (i : Int), .pointer (some ⟨C.pb, 0, none⟩), .pointer (some ⟨C.pb, 0, none⟩), .pointer (some ⟨C.pb, 1, none⟩), .slice (some ⟨C.b1, 0, none⟩) C.n C.n, .int .i64 (i : Int), .pointer (some ⟨C.b1, i, none⟩), row, .int .i64 (x : Int), .func (.func 43) #[] #[.pointer (some ⟨bc, 0, none⟩)], .int .i64 (i : Int), .int .i64 s, .agg #[.int .i64 (x : Int), .int .i64 s], .slice (some ⟨x1.heap.size, 0, none⟩) 1 1, undef, .pointer (some ⟨C.b1, i, none⟩)].getD j undef) (.cells #[.int .i64 (x : Int), .int .i64 s] 63) (by omega) (by kernel_rfl) (by kernel_rfl) (by kernel_rfl) (by decide) (by decide) (by kernel_rfl) (by kernel_rfl) ?_ ?_ ?_ ?_ (fun a' x2 τ' h1 h2 h3 h4 h5 h6 _ => hK a' x2 τ' h1 h2 h3 h4 h5 (h6 (by decide)))
  · intro j o ho hj nb na L a' w τw Lw hS hdep hPw hst hpre K hK
    have e : ∀ k, k < 20 → k ≠ 18 → waits _ j k = true → a'.eval (.tmp (340 + k)) = _ := fun k hk hn hw => hS.ins k hk hn (hdep k hw)
    have eo : ∀ s, (s < 340 ∨ 340 + 20 ≤ s) → a'.eval (.tmp s) = G a s := hS.out
    obtain rfl | rfl | rfl | rfl | rfl | rfl | rfl | rfl | rfl | rfl | rfl | rfl | rfl | rfl | rfl | rfl | rfl | rfl : j = 0 ∨ j = 1 ∨ j = 2 ∨ j = 3 ∨ j = 4 ∨ j = 5 ∨ j = 6 ∨ j = 7 ∨ j = 8 ∨ j = 9 ∨ j = 10 ∨ j = 11 ∨ j = 12 ∨ j = 13 ∨ j = 14 ∨ j = 15 ∨ j = 16 ∨ j = 19 := by omega
    all_goals obtain rfl := Option.some.inj ho
    · exact wp_val (ex_move (.tmp 4) rfl ((eo 4 (Or.inl (by decide))).trans g4)) hK
    · exact wp_val (ex_nil (.tmp 340) rfl (e 0 (by decide) (by decide) (by kernel_rfl))) hK
    · exact wp_val (ex_field58 (.tmp 341) 1 (by decide) rfl (e 1 (by decide) (by decide) (by kernel_rfl))) hK
    · exact wp_val (ex_load 56 (.tmp 342) rfl agg56 (e 2 (by decide) (by decide) (by kernel_rfl)) (hPw.cell 1)) hK
    · exact wp_val (ex_move (.tmp 26) rfl ((eo 26 (Or.inl (by decide))).trans g26)) hK
    · exact wp_val (ex_move (.tmp 4) rfl ((eo 4 (Or.inl (by decide))).trans g4)) hK
    · exact wp_val (ex_nil (.tmp 345) rfl (e 5 (by decide) (by decide) (by kernel_rfl))) hK
    · exact wp_val (ex_field58 (.tmp 346) 1 (by decide) rfl (e 6 (by decide) (by decide) (by kernel_rfl))) hK
    · exact wp_val (ex_load 56 (.tmp 347) rfl agg56 (e 7 (by decide) (by decide) (by kernel_rfl)) (hPw.cell 1)) hK
    · exact wp_val (ex_move (.tmp 26) rfl ((eo 26 (Or.inl (by decide))).trans g26)) hK
    · exact wp_val (ex_index 56 (.tmp 348) (.tmp 349) rfl (e 8 (by decide) (by decide) (by kernel_rfl)) (e 9 (by decide) (by decide) (by kernel_rfl)) (hix w)) hK
    · refine wp_val (ex_load 61 (.tmp 350) rfl agg61 (e 10 (by decide) (by decide) (by kernel_rfl)) ?_) hK
      rcases hpre (by kernel_rfl) with h | h
      · rw [h]; exact hrow
      · rw [h]; exact (World.cell?_of_block (w := x1.drew) (Below.heap_alloc x1.drew _ _ (hP.ht.lt hP.t1))).trans hrow
    · exact wp_val (ex_move (.tmp 5) rfl ((eo 5 (Or.inl (by decide))).trans g5)) hK
    · exact wp_val (ex_move (.tmp 24) rfl ((eo 24 (Or.inl (by decide))).trans g24)) hK
    · exact wp_val (ex_move (.tmp 26) rfl ((eo 26 (Or.inl (by decide))).trans g26)) hK
    · have hcl := src_any (i : Int) (by unfold Fits; omega) bc bm4 cm4 F4 w ((hst.keep _ nbc (row_lt hbc)).trans hbc) (hM4.step hst).map
      rw [hs] at hcl
      exact wp_enter (ex_close (.tmp 353) (.tmp 354) rfl (e 13 (by decide) (by decide) (by kernel_rfl)) (e 14 (by decide) (by decide) (by kernel_rfl))) hcl hK
    · exact wp_val (ex_build63 (.tmp 352) (.tmp 355) rfl (e 12 (by decide) (by decide) (by kernel_rfl)) (e 15 (by decide) (by decide) (by kernel_rfl))) hK
    · exact wp_val (ex_index 56 (.tmp 343) (.tmp 344) rfl (e 3 (by decide) (by decide) (by kernel_rfl)) (e 4 (by decide) (by decide) (by kernel_rfl)) (hix w)) hK
  · intro o ho L a' hS hdep
    obtain rfl := Option.some.inj ho
    exact ex_build61 (.tmp 356) rfl (hS.ins 16 (by decide) (by decide) (hdep 16 (by kernel_rfl)))
  · intro o ho L a' hS hdep
    obtain rfl := Option.some.inj ho
    obtain ⟨g, c, w', τ', hr, r1, r2, r3, r4⟩ := (hP.ht.drew.alloc (.cells #[.int .i64 (x : Int), .int .i64 s] 63)).append3 (k := 4) (v := row) okr 61 61 (.agg #[.int .i64 0, .int .i64 0]) 16 Try.underlying61 Try.info63 rfl ok_zero4 (by decide) hL ⟨x1.heap.size, 0, none⟩ 1 [.int .i64 (x : Int), .int .i64 s] rfl (World.news_of_block (heap_alloc_new x1.drew _)) (by simp [Value.oneCell']) (fun u hu => by simp at hu; rcases hu with h | h <;> exact ⟨_, h⟩)
    exact ⟨g, c, w', τ', ex_append (.tmp 351) (.tmp 357) 61 rfl (hS.ins 11 (by decide) (by decide) (hdep 11 (by kernel_rfl))) (hS.ins 17 (by decide) (by decide) (hdep 17 (by kernel_rfl))) hr, r1, r2, r3, r4 (by decide)⟩
  · intro o ho L a' w τ' g c hS hdep hPw hst hG hSl
    obtain rfl := Option.some.inj ho
    obtain ⟨u, hu, _, fu⟩ := hPw.ht.cell (hst.ext _ _ hP.t1) rfl (i := i) hin
    exact ⟨ex_storeS 61 (.tmp 359) (.tmp 358) rfl Try.cell61 (hS.ins 19 (by decide) (by decide) (hdep 19 (by kernel_rfl))) hG hu fu, hst.ext _ _ hP.t1, hSl⟩

set_option maxRecDepth 100000 in
theorem reg45 (C : PC) (w0 x1 : World) (τ : Tags) (LL : Nat) (v4 v5 : Value) (hP : PSt C w0 x1 τ LL v4 v5) (hL : LL < 1099511627776) (hn : C.n ≤ 65536) (bm1 cm1 : Nat) (F1 : Int → Option Value) (lo hi : Int) (hM1 : MIn x1 τ bm1 cm1 F1 lo hi)
    (a : Act) (hsz : a.tmps.size = 405) (g4 : G a 4 = .pointer (some ⟨C.pb, 0, none⟩)) (r i : Nat) (g7 : G a 7 = .map (some bm1)) (g18 : G a 18 = .int .i64 (r : Int)) (hr : r < C.n) (hf : (F1 (r : Int)).getD (.int .i64 0) = .int .i64 (i : Int)) (hin : i < C.n) (Q : Exit → Act → World → Prop)
    (hK : ∀ a' x2 τ', a'.tmps.size = a.tmps.size → a'.defers = a.defers → (∀ s, s < 239 ∨ 239 + 20 ≤ s → G a' s = G a s) → PSt C w0 x2 τ' (LL + 1) v4 v5 → Stp τ x1 τ' x2 → K3 τ x1 x2 → Q .normal a' x2) : Code.wp Try.prog (regOf Try.f38 45) Q a x1 := by
  obtain ⟨row, hrow, okr, frow⟩ := hP.ht.cell hP.t6 rfl (i := i) hin
  have hix := run_ix 37 22 C.b6 C.n C.n i hin Try.underlying37 Try.cell22
  conv => arg 2; whnf
  refine region_app C w0 x1 τ LL v4 v5 hP a 239 20 17 18 0 (lenV row + 1) C.b6 i 2 C.n (fun j => [(.pointer (some ⟨C.pb, 0, none⟩) : Value), .pointer (some ⟨C.pb, 0, none⟩), .pointer (some ⟨C.pb, 6, none⟩), .slice (some ⟨C.b6, 0, none⟩) C.n C.n, .map (some bm1), .int .i64 (r : Int), .int .i64 (i : Int), .pointer (some ⟨C.pb, 0, none⟩), .pointer (some ⟨C.pb, 0, none⟩), .pointer (some ⟨C.pb, 6, none⟩), .slice (some ⟨C.b6, 0, none⟩) C.n C.n, .map (some bm1), .int .i64 (r : Int), .int .i64 (i : Int), .pointer (some ⟨C.b6, i, none⟩), row, .int .i64 (r : Int), .slice (some ⟨x1.heap.size, 0, none⟩) 1 1, undef, .pointer (some ⟨C.b6, i, none⟩)].getD j undef) (.cells #[.int .i64 (r : Int)] 3) (by omega) (by kernel_rfl) (by kernel_rfl) (by kernel_rfl) (by decide) (by decide) (by kernel_rfl) (by kernel_rfl) ?_ ?_ ?_ ?_ (fun a' x2 τ' h1 h2 h3 h4 h5 h6 _ => hK a' x2 τ' h1 h2 h3 h4 h5 (h6 (by decide)))
  · intro j o ho hj nb na L a' w τw Lw hS hdep hPw hst hpre K hK
    have e : ∀ k, k < 20 → k ≠ 18 → waits _ j k = true → a'.eval (.tmp (239 + k)) = _ := fun k hk hn hw => hS.ins k hk hn (hdep k hw)
    have eo : ∀ s, (s < 239 ∨ 239 + 20 ≤ s) → a'.eval (.tmp s) = G a s := hS.out
    have hlook : (Instr.lookup 50 (.map (some bm1)) (.int .i64 (r : Int)) false).run Try.prog w = .ok (.int .i64 (i : Int)) w := by
      rw [← hf]
      exact ((hM1.step hst).map.look 50 3 (.int .i64 0) law3 Try.underlying50 zero3 rfl (kI_key (x := (r : Int)) (by unfold Fits; omega))).2
    obtain rfl | rfl | rfl | rfl | rfl | rfl | rfl | rfl | rfl | rfl | rfl | rfl | rfl | rfl | rfl | rfl | rfl | rfl : j = 0 ∨ j = 1 ∨ j = 2 ∨ j = 3 ∨ j = 4 ∨ j = 5 ∨ j = 6 ∨ j = 7 ∨ j = 8 ∨ j = 9 ∨ j = 10 ∨ j = 11 ∨ j = 12 ∨ j = 13 ∨ j = 14 ∨ j = 15 ∨ j = 16 ∨ j = 19 := by omega
    all_goals obtain rfl := Option.some.inj ho
    · exact wp_val (ex_move (.tmp 4) rfl ((eo 4 (Or.inl (by decide))).trans g4)) hK
    · exact wp_val (ex_nil (.tmp 239) rfl (e 0 (by decide) (by decide) (by kernel_rfl))) hK
    · exact wp_val (ex_field58 (.tmp 240) 6 (by decide) rfl (e 1 (by decide) (by decide) (by kernel_rfl))) hK
    · exact wp_val (ex_load 37 (.tmp 241) rfl agg37 (e 2 (by decide) (by decide) (by kernel_rfl)) (hPw.cell 6)) hK
    · exact wp_val (ex_move (.tmp 7) rfl ((eo 7 (Or.inl (by decide))).trans g7)) hK
    · exact wp_val (ex_move (.tmp 18) rfl ((eo 18 (Or.inl (by decide))).trans g18)) hK
    · exact wp_val (ex_lookup 50 (.tmp 243) (.tmp 244) false rfl (e 4 (by decide) (by decide) (by kernel_rfl)) (e 5 (by decide) (by decide) (by kernel_rfl)) hlook) hK
    · exact wp_val (ex_move (.tmp 4) rfl ((eo 4 (Or.inl (by decide))).trans g4)) hK
    · exact wp_val (ex_nil (.tmp 246) rfl (e 7 (by decide) (by decide) (by kernel_rfl))) hK
    · exact wp_val (ex_field58 (.tmp 247) 6 (by decide) rfl (e 8 (by decide) (by decide) (by kernel_rfl))) hK
    · exact wp_val (ex_load 37 (.tmp 248) rfl agg37 (e 9 (by decide) (by decide) (by kernel_rfl)) (hPw.cell 6)) hK
    · exact wp_val (ex_move (.tmp 7) rfl ((eo 7 (Or.inl (by decide))).trans g7)) hK
    · exact wp_val (ex_move (.tmp 18) rfl ((eo 18 (Or.inl (by decide))).trans g18)) hK
    · exact wp_val (ex_lookup 50 (.tmp 250) (.tmp 251) false rfl (e 11 (by decide) (by decide) (by kernel_rfl)) (e 12 (by decide) (by decide) (by kernel_rfl)) hlook) hK
    · exact wp_val (ex_index 37 (.tmp 249) (.tmp 252) rfl (e 10 (by decide) (by decide) (by kernel_rfl)) (e 13 (by decide) (by decide) (by kernel_rfl)) (hix w)) hK
    · refine wp_val (ex_load 22 (.tmp 253) rfl agg22 (e 14 (by decide) (by decide) (by kernel_rfl)) ?_) hK
      rcases hpre (by kernel_rfl) with h | h
      · rw [h]; exact hrow
      · rw [h]; exact (World.cell?_of_block (w := x1.drew) (Below.heap_alloc x1.drew _ _ (hP.ht.lt hP.t6))).trans hrow
    · exact wp_val (ex_move (.tmp 18) rfl ((eo 18 (Or.inl (by decide))).trans g18)) hK
    · exact wp_val (ex_index 37 (.tmp 242) (.tmp 245) rfl (e 3 (by decide) (by decide) (by kernel_rfl)) (e 6 (by decide) (by decide) (by kernel_rfl)) (hix w)) hK
  · intro o ho L a' hS hdep
    obtain rfl := Option.some.inj ho
    exact ex_build22 (.tmp 255) rfl (hS.ins 16 (by decide) (by decide) (hdep 16 (by kernel_rfl)))
  · intro o ho L a' hS hdep
    obtain rfl := Option.some.inj ho
    obtain ⟨g, c, w', τ', hr, r1, r2, r3, r4⟩ := (hP.ht.drew.alloc (.cells #[.int .i64 (r : Int)] 3)).append3 (k := 0) (v := row) okr 22 22 (.int .i64 0) 8 Try.underlying22 Try.info3 rfl ok_zero0 (by decide) hL ⟨x1.heap.size, 0, none⟩ 1 [.int .i64 (r : Int)] rfl (World.news_of_block (heap_alloc_new x1.drew _)) (by simp [Value.oneCell']) (fun u hu => ⟨_, by simpa using hu⟩)
    exact ⟨g, c, w', τ', ex_append (.tmp 254) (.tmp 256) 22 rfl (hS.ins 15 (by decide) (by decide) (hdep 15 (by kernel_rfl))) (hS.ins 17 (by decide) (by decide) (hdep 17 (by kernel_rfl))) hr, r1, r2, r3, r4 (by decide)⟩
  · intro o ho L a' w τ' g c hS hdep hPw hst hG hSl
    obtain rfl := Option.some.inj ho
    obtain ⟨u, hu, _, fu⟩ := hPw.ht.cell (hst.ext _ _ hP.t6) rfl (i := i) hin
    exact ⟨ex_storeS 22 (.tmp 258) (.tmp 257) rfl Try.cell22 (hS.ins 19 (by decide) (by decide) (hdep 19 (by kernel_rfl))) hG hu fu, hst.ext _ _ hP.t6, hSl⟩

set_option maxRecDepth 100000 in
theorem reg23 (C : PC) (w0 x1 : World) (τ : Tags) (LL : Nat) (v4 v5 : Value) (hP : PSt C w0 x1 τ LL v4 v5) (hL : LL < 1099511627776) (bv r : Nat) (hr : r < C.n) (wv : Value) (hbv : x1.heap[bv]? = some (.cells #[.int .i64 (r : Int), wv] 82 (0, 0))) (nbv : τ bv = none)
    (a : Act) (hsz : a.tmps.size = 405) (g4 : G a 4 = .pointer (some ⟨C.pb, 0, none⟩)) (x : Nat) (hx : x < C.k) (g5 : G a 5 = .int .i64 (x : Int)) (g13 : G a 13 = .pointer (some ⟨bv, 0, none⟩)) (Q : Exit → Act → World → Prop)
    (hK : ∀ a' x2 τ', a'.tmps.size = a.tmps.size → a'.defers = a.defers → (∀ s, s < 124 ∨ 124 + 17 ≤ s → G a' s = G a s) → PSt C w0 x2 τ' (LL + 1) v4 v5 → Stp τ x1 τ' x2 → (∃ y row, x1.cell? ⟨C.b2, x, none⟩ = some row ∧ K3 τ x1 y ∧ (x2 = y ∨ ∃ g c, x2 = y.setCell ⟨C.b2, x, none⟩ (.slice (some ⟨g, 0, none⟩) (lenV row + 1) c))) → Q .normal a' x2) : Code.wp Try.prog (regOf Try.f38 23) Q a x1 := by
  obtain ⟨row, hrow, okr, frow⟩ := hP.ht.cell hP.t2 rfl (i := x) hx
  have hix := run_ix 37 22 C.b2 C.k C.k x hx Try.underlying37 Try.cell22
  conv => arg 2; whnf
  refine region_app C w0 x1 τ LL v4 v5 hP a 124 17 14 15 1 (lenV row + 1) C.b2 x 3 C.k (fun j => [(.pointer (some ⟨C.pb, 0, none⟩) : Value), .pointer (some ⟨C.pb, 0, none⟩), .pointer (some ⟨C.pb, 2, none⟩), .slice (some ⟨C.b2, 0, none⟩) C.k C.k, .int .i64 (x : Int), .pointer (some ⟨C.pb, 0, none⟩), .pointer (some ⟨C.pb, 0, none⟩), .pointer (some ⟨C.pb, 2, none⟩), .slice (some ⟨C.b2, 0, none⟩) C.k C.k, .int .i64 (x : Int), .pointer (some ⟨C.b2, x, none⟩), row, .pointer (some ⟨bv, 0, none⟩), .int .i64 (r : Int), .slice (some ⟨x1.heap.size, 0, none⟩) 1 1, undef, .pointer (some ⟨C.b2, x, none⟩)].getD j undef) (.cells #[.int .i64 (r : Int)] 3) (by omega) (by kernel_rfl) (by kernel_rfl) (by kernel_rfl) (by decide) (by decide) (by kernel_rfl) (by kernel_rfl) ?_ ?_ ?_ ?_ (fun a' x2 τ' h1 h2 h3 h4 h5 _ h7 => hK a' x2 τ' h1 h2 h3 h4 h5 (by
    obtain ⟨y, g, c, q1, q2⟩ := h7
    exact ⟨y, row, hrow, q1, q2.imp id (fun q => ⟨g, c, q⟩)⟩))
  · intro j o ho hj nb na L a' w τw Lw hS hdep hPw hst hpre K hK
    have e : ∀ k, k < 17 → k ≠ 15 → waits _ j k = true → a'.eval (.tmp (124 + k)) = _ := fun k hk hn hw => hS.ins k hk hn (hdep k hw)
    have eo : ∀ s, (s < 124 ∨ 124 + 17 ≤ s) → a'.eval (.tmp s) = G a s := hS.out
    have kv : w.cell? ⟨bv, 0, none⟩ = some (.int .i64 (r : Int)) := by
      rw [cell_of_row w bv 0 _ _ _ ((hst.keep _ nbv (row_lt hbv)).trans hbv)]
      rfl
    obtain rfl | rfl | rfl | rfl | rfl | rfl | rfl | rfl | rfl | rfl | rfl | rfl | rfl | rfl | rfl : j = 0 ∨ j = 1 ∨ j = 2 ∨ j = 3 ∨ j = 4 ∨ j = 5 ∨ j = 6 ∨ j = 7 ∨ j = 8 ∨ j = 9 ∨ j = 10 ∨ j = 11 ∨ j = 12 ∨ j = 13 ∨ j = 16 := by omega
    all_goals obtain rfl := Option.some.inj ho
    · exact wp_val (ex_move (.tmp 4) rfl ((eo 4 (Or.inl (by decide))).trans g4)) hK
    · exact wp_val (ex_nil (.tmp 124) rfl (e 0 (by decide) (by decide) (by kernel_rfl))) hK
    · exact wp_val (ex_field58 (.tmp 125) 2 (by decide) rfl (e 1 (by decide) (by decide) (by kernel_rfl))) hK
    · exact wp_val (ex_load 37 (.tmp 126) rfl agg37 (e 2 (by decide) (by decide) (by kernel_rfl)) (hPw.cell 2)) hK
    · exact wp_val (ex_move (.tmp 5) rfl ((eo 5 (Or.inl (by decide))).trans g5)) hK
    · exact wp_val (ex_move (.tmp 4) rfl ((eo 4 (Or.inl (by decide))).trans g4)) hK
    · exact wp_val (ex_nil (.tmp 129) rfl (e 5 (by decide) (by decide) (by kernel_rfl))) hK
    · exact wp_val (ex_field58 (.tmp 130) 2 (by decide) rfl (e 6 (by decide) (by decide) (by kernel_rfl))) hK
    · exact wp_val (ex_load 37 (.tmp 131) rfl agg37 (e 7 (by decide) (by decide) (by kernel_rfl)) (hPw.cell 2)) hK
    · exact wp_val (ex_move (.tmp 5) rfl ((eo 5 (Or.inl (by decide))).trans g5)) hK
    · exact wp_val (ex_index 37 (.tmp 132) (.tmp 133) rfl (e 8 (by decide) (by decide) (by kernel_rfl)) (e 9 (by decide) (by decide) (by kernel_rfl)) (hix w)) hK
    · refine wp_val (ex_load 22 (.tmp 134) rfl agg22 (e 10 (by decide) (by decide) (by kernel_rfl)) ?_) hK
      rcases hpre (by kernel_rfl) with h | h
      · rw [h]; exact hrow
      · rw [h]; exact (World.cell?_of_block (w := x1.drew) (Below.heap_alloc x1.drew _ _ (hP.ht.lt hP.t2))).trans hrow
    · exact wp_val (ex_field82 (.tmp 13) 0 (by decide) rfl ((eo 13 (Or.inl (by decide))).trans g13)) hK
    · exact wp_val (ex_load 3 (.tmp 136) rfl agg3 (e 12 (by decide) (by decide) (by kernel_rfl)) kv) hK
    · exact wp_val (ex_index 37 (.tmp 127) (.tmp 128) rfl (e 3 (by decide) (by decide) (by kernel_rfl)) (e 4 (by decide) (by decide) (by kernel_rfl)) (hix w)) hK
  · intro o ho L a' hS hdep
    obtain rfl := Option.some.inj ho
    exact ex_build22 (.tmp 137) rfl (hS.ins 13 (by decide) (by decide) (hdep 13 (by kernel_rfl)))
  · intro o ho L a' hS hdep
    obtain rfl := Option.some.inj ho
    obtain ⟨g, c, w', τ', hr, r1, r2, r3, r4⟩ := (hP.ht.drew.alloc (.cells #[.int .i64 (r : Int)] 3)).append3 (k := 1) (v := row) okr 22 22 (.int .i64 0) 8 Try.underlying22 Try.info3 rfl (ok_zero1 (by omega)) (by decide) hL ⟨x1.heap.size, 0, none⟩ 1 [.int .i64 (r : Int)] rfl (World.news_of_block (heap_alloc_new x1.drew _)) (by simp [Value.oneCell']) (fun u hu => ⟨r, by simpa using hu, hr⟩)
    exact ⟨g, c, w', τ', ex_append (.tmp 135) (.tmp 138) 22 rfl (hS.ins 11 (by decide) (by decide) (hdep 11 (by kernel_rfl))) (hS.ins 14 (by decide) (by decide) (hdep 14 (by kernel_rfl))) hr, r1, r2, r3, r4 (by decide)⟩
  · intro o ho L a' w τ' g c hS hdep hPw hst hG hSl
    obtain rfl := Option.some.inj ho
    obtain ⟨u, hu, _, fu⟩ := hPw.ht.cell (hst.ext _ _ hP.t2) rfl (i := x) hx
    exact ⟨ex_storeS 22 (.tmp 140) (.tmp 139) rfl Try.cell22 (hS.ins 16 (by decide) (by decide) (hdep 16 (by kernel_rfl))) hG hu fu, hst.ext _ _ hP.t2, hSl⟩

end Go.Proofs.Qxb6001364a
