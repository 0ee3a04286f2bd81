import Derived.Test.Qxb6001364aExec
namespace Go.Proofs.Qxb6001364a
open Go.ChangeShapes Go.WideShapes Go.ChangeAt Go.RowKit Go.Maps

set_option maxRecDepth 100000 in
theorem reg42 (C : PC) (w0 x1 : World) (τ : Tags) (LL : Nat) (v4 v5 : Value) (hP : PSt C w0 x1 τ LL v4 v5) (hL : LL < 1099511627776) (bF lF cF : Nat) (hfv : ∀ w τw Lw, PSt C w0 w τw Lw v4 v5 → w.cell? ⟨C.pb, 0, none⟩ = some (.slice (some ⟨bF, 0, none⟩) lF cF)) (htF : τ bF = some (2, cF)) (hlF : lF ≤ cF)
    (a : Act) (hsz : a.tmps.size = 405) (g4 : G a 4 = .pointer (some ⟨C.pb, 0, none⟩)) (i : Nat) (z : Int) (gi : G a 18 = .int .i64 (i : Int)) (gx : G a 19 = .int .i64 z) (hi : i < lF) (Q : Exit → Act → World → Prop)
    (hK : ∀ a' x2 τ', a'.tmps.size = a.tmps.size → a'.defers = a.defers → (∀ s, s < 203 ∨ 203 + 16 ≤ s → G a' s = G a s) → PSt C w0 x2 τ' (LL + 1) v4 v5 → Stp τ x1 τ' x2 → K3 τ x1 x2 → Q .normal a' x2) : Code.wp Try.prog (regOf Try.f38 42) Q a x1 := by
  obtain ⟨row, hrow, okr, frow⟩ := hP.ht.cell htF rfl (i := i) (by omega)
  have hix := run_ix 37 22 bF lF cF i hi Try.underlying37 Try.cell22
  conv => arg 2; whnf
  refine region_app C w0 x1 τ LL v4 v5 hP a 203 16 13 14 0 (lenV row + 1) bF i 2 cF (fun j => [(.pointer (some ⟨C.pb, 0, none⟩) : Value), .pointer (some ⟨C.pb, 0, none⟩), .pointer (some ⟨C.pb, 0, none⟩), .slice (some ⟨bF, 0, none⟩) lF cF, .int .i64 (i : Int), .pointer (some ⟨C.pb, 0, none⟩), .pointer (some ⟨C.pb, 0, none⟩), .pointer (some ⟨C.pb, 0, none⟩), .slice (some ⟨bF, 0, none⟩) lF cF, .int .i64 (i : Int), .pointer (some ⟨bF, i, none⟩), row, .int .i64 z, .slice (some ⟨x1.heap.size, 0, none⟩) 1 1, undef, .pointer (some ⟨bF, i, none⟩)].getD j undef) (.cells #[.int .i64 z] 3) (by omega) (by kernel_rfl) (by kernel_rfl) (by kernel_rfl) (by decide) (by decide) (by kernel_rfl) (by kernel_rfl) ?_ ?_ ?_ ?_ (fun a' x2 τ' h1 h2 h3 h4 h5 h6 _ => hK a' x2 τ' h1 h2 h3 h4 h5 (h6 (by decide)))
  · intro j o ho hj nb na L a' w τw Lw hS hdep hPw hst hpre K hK
    have e : ∀ k, k < 16 → k ≠ 14 → waits _ j k = true → a'.eval (.tmp (203 + k)) = _ := fun k hk hn hw => hS.ins k hk hn (hdep k hw)
    have eo : ∀ s, (s < 203 ∨ 203 + 16 ≤ s) → a'.eval (.tmp s) = G a s := hS.out
    have hcF := hfv w τw Lw hPw
    obtain rfl | rfl | rfl | rfl | rfl | rfl | rfl | rfl | rfl | rfl | rfl | rfl | rfl | rfl : j = 0 ∨ j = 1 ∨ j = 2 ∨ j = 3 ∨ j = 4 ∨ j = 5 ∨ j = 6 ∨ j = 7 ∨ j = 8 ∨ j = 9 ∨ j = 10 ∨ j = 11 ∨ j = 12 ∨ j = 15 := by omega
    all_goals obtain rfl := Option.some.inj ho
    · exact wp_val (ex_move (.tmp 4) rfl ((eo 4 (Or.inl (by decide))).trans g4)) hK
    · exact wp_val (ex_nil (.tmp 203) rfl (e 0 (by decide) (by decide) (by kernel_rfl))) hK
    · exact wp_val (ex_field58 (.tmp 204) 0 (by decide) rfl (e 1 (by decide) (by decide) (by kernel_rfl))) hK
    · exact wp_val (ex_load 37 (.tmp 205) rfl agg37 (e 2 (by decide) (by decide) (by kernel_rfl)) hcF) hK
    · exact wp_val (ex_move (.tmp 18) rfl ((eo 18 (Or.inl (by decide))).trans gi)) hK
    · exact wp_val (ex_move (.tmp 4) rfl ((eo 4 (Or.inl (by decide))).trans g4)) hK
    · exact wp_val (ex_nil (.tmp 208) rfl (e 5 (by decide) (by decide) (by kernel_rfl))) hK
    · exact wp_val (ex_field58 (.tmp 209) 0 (by decide) rfl (e 6 (by decide) (by decide) (by kernel_rfl))) hK
    · exact wp_val (ex_load 37 (.tmp 210) rfl agg37 (e 7 (by decide) (by decide) (by kernel_rfl)) hcF) hK
    · exact wp_val (ex_move (.tmp 18) rfl ((eo 18 (Or.inl (by decide))).trans gi)) hK
    · exact wp_val (ex_index 37 (.tmp 211) (.tmp 212) rfl (e 8 (by decide) (by decide) (by kernel_rfl)) (e 9 (by decide) (by decide) (by kernel_rfl)) (hix w)) hK
    · refine wp_val (ex_load 22 (.tmp 213) rfl agg22 (e 10 (by decide) (by decide) (by kernel_rfl)) ?_) hK
      rcases hpre (by kernel_rfl) with h | h
      · rw [h]; exact hrow
      · rw [h]; exact (World.cell?_of_block (w := x1.drew) (Below.heap_alloc x1.drew _ _ (hP.ht.lt htF))).trans hrow
    · exact wp_val (ex_move (.tmp 19) rfl ((eo 19 (Or.inl (by decide))).trans gx)) hK
    · exact wp_val (ex_index 37 (.tmp 206) (.tmp 207) rfl (e 3 (by decide) (by decide) (by kernel_rfl)) (e 4 (by decide) (by decide) (by kernel_rfl)) (hix w)) hK
  · intro o ho L a' hS hdep
    obtain rfl := Option.some.inj ho
    exact ex_build22 (.tmp 215) rfl (hS.ins 12 (by decide) (by decide) (hdep 12 (by kernel_rfl)))
  · intro o ho L a' hS hdep
    obtain rfl := Option.some.inj ho
    obtain ⟨g, c, w', τ', hr, r1, r2, r3, r4⟩ := (hP.ht.drew.alloc (.cells #[.int .i64 z] 3)).append3 (k := 0) (v := row) okr 22 22 (.int .i64 0) 8 Try.underlying22 Try.info3 rfl ok_zero0 (by decide) hL ⟨x1.heap.size, 0, none⟩ 1 [.int .i64 z] rfl (World.news_of_block (heap_alloc_new x1.drew _)) (by simp [Value.oneCell']) (fun u hu => ⟨z, by simpa using hu⟩)
    exact ⟨g, c, w', τ', ex_append (.tmp 214) (.tmp 216) 22 rfl (hS.ins 11 (by decide) (by decide) (hdep 11 (by kernel_rfl))) (hS.ins 13 (by decide) (by decide) (hdep 13 (by kernel_rfl))) hr, r1, r2, r3, r4 (by decide)⟩
  · intro o ho L a' w τ' g c hS hdep hPw hst hG hSl
    obtain rfl := Option.some.inj ho
    obtain ⟨u, hu, _, fu⟩ := hPw.ht.cell (hst.ext _ _ htF) rfl (i := i) (by omega)
    exact ⟨ex_storeS 22 (.tmp 218) (.tmp 217) rfl Try.cell22 (hS.ins 15 (by decide) (by decide) (hdep 15 (by kernel_rfl))) hG hu fu, hst.ext _ _ htF, hSl⟩

set_option maxRecDepth 100000 in
theorem reg43 (C : PC) (w0 x1 : World) (τ : Tags) (LL : Nat) (v4 v5 : Value) (hP : PSt C w0 x1 τ LL v4 v5) (hL : LL < 1099511627776) (bF lF cF : Nat) (hfv : ∀ w τw Lw, PSt C w0 w τw Lw v4 v5 → w.cell? ⟨C.pb, 4, none⟩ = some (.slice (some ⟨bF, 0, none⟩) lF cF)) (htF : τ bF = some (2, cF)) (hlF : lF ≤ cF)
    (a : Act) (hsz : a.tmps.size = 405) (g4 : G a 4 = .pointer (some ⟨C.pb, 0, none⟩)) (i : Nat) (z : Int) (gi : G a 19 = .int .i64 (i : Int)) (gx : G a 18 = .int .i64 z) (hi : i < lF) (Q : Exit → Act → World → Prop)
    (hK : ∀ a' x2 τ', a'.tmps.size = a.tmps.size → a'.defers = a.defers → (∀ s, s < 219 ∨ 219 + 16 ≤ s → G a' s = G a s) → PSt C w0 x2 τ' (LL + 1) v4 v5 → Stp τ x1 τ' x2 → K3 τ x1 x2 → Q .normal a' x2) : Code.wp Try.prog (regOf Try.f38 43) Q a x1 := by
  obtain ⟨row, hrow, okr, frow⟩ := hP.ht.cell htF rfl (i := i) (by omega)
  have hix := run_ix 37 22 bF lF cF i hi Try.underlying37 Try.cell22
  conv => arg 2; whnf
  refine region_app C w0 x1 τ LL v4 v5 hP a 219 16 13 14 0 (lenV row + 1) bF i 2 cF (fun j => [(.pointer (some ⟨C.pb, 0, none⟩) : Value), .pointer (some ⟨C.pb, 0, none⟩), .pointer (some ⟨C.pb, 4, none⟩), .slice (some ⟨bF, 0, none⟩) lF cF, .int .i64 (i : Int), .pointer (some ⟨C.pb, 0, none⟩), .pointer (some ⟨C.pb, 0, none⟩), .pointer (some ⟨C.pb, 4, none⟩), .slice (some ⟨bF, 0, none⟩) lF cF, .int .i64 (i : Int), .pointer (some ⟨bF, i, none⟩), row, .int .i64 z, .slice (some ⟨x1.heap.size, 0, none⟩) 1 1, undef, .pointer (some ⟨bF, i, none⟩)].getD j undef) (.cells #[.int .i64 z] 3) (by omega) (by kernel_rfl) (by kernel_rfl) (by kernel_rfl) (by decide) (by decide) (by kernel_rfl) (by kernel_rfl) ?_ ?_ ?_ ?_ (fun a' x2 τ' h1 h2 h3 h4 h5 h6 _ => hK a' x2 τ' h1 h2 h3 h4 h5 (h6 (by decide)))
  · intro j o ho hj nb na L a' w τw Lw hS hdep hPw hst hpre K hK
    have e : ∀ k, k < 16 → k ≠ 14 → waits _ j k = true → a'.eval (.tmp (219 + k)) = _ := fun k hk hn hw => hS.ins k hk hn (hdep k hw)
    have eo : ∀ s, (s < 219 ∨ 219 + 16 ≤ s) → a'.eval (.tmp s) = G a s := hS.out
    have hcF := hfv w τw Lw hPw
    obtain rfl | rfl | rfl | rfl | rfl | rfl | rfl | rfl | rfl | rfl | rfl | rfl | rfl | rfl : j = 0 ∨ j = 1 ∨ j = 2 ∨ j = 3 ∨ j = 4 ∨ j = 5 ∨ j = 6 ∨ j = 7 ∨ j = 8 ∨ j = 9 ∨ j = 10 ∨ j = 11 ∨ j = 12 ∨ j = 15 := by omega
    all_goals obtain rfl := Option.some.inj ho
    · exact wp_val (ex_move (.tmp 4) rfl ((eo 4 (Or.inl (by decide))).trans g4)) hK
    · exact wp_val (ex_nil (.tmp 219) rfl (e 0 (by decide) (by decide) (by kernel_rfl))) hK
    · exact wp_val (ex_field58 (.tmp 220) 4 (by decide) rfl (e 1 (by decide) (by decide) (by kernel_rfl))) hK
    · exact wp_val (ex_load 37 (.tmp 221) rfl agg37 (e 2 (by decide) (by decide) (by kernel_rfl)) hcF) hK
    · exact wp_val (ex_move (.tmp 19) rfl ((eo 19 (Or.inl (by decide))).trans gi)) hK
    · exact wp_val (ex_move (.tmp 4) rfl ((eo 4 (Or.inl (by decide))).trans g4)) hK
    · exact wp_val (ex_nil (.tmp 224) rfl (e 5 (by decide) (by decide) (by kernel_rfl))) hK
    · exact wp_val (ex_field58 (.tmp 225) 4 (by decide) rfl (e 6 (by decide) (by decide) (by kernel_rfl))) hK
    · exact wp_val (ex_load 37 (.tmp 226) rfl agg37 (e 7 (by decide) (by decide) (by kernel_rfl)) hcF) hK
    · exact wp_val (ex_move (.tmp 19) rfl ((eo 19 (Or.inl (by decide))).trans gi)) hK
    · exact wp_val (ex_index 37 (.tmp 227) (.tmp 228) rfl (e 8 (by decide) (by decide) (by kernel_rfl)) (e 9 (by decide) (by decide) (by kernel_rfl)) (hix w)) hK
    · refine wp_val (ex_load 22 (.tmp 229) rfl agg22 (e 10 (by decide) (by decide) (by kernel_rfl)) ?_) hK
      rcases hpre (by kernel_rfl) with h | h
      · rw [h]; exact hrow
      · rw [h]; exact (World.cell?_of_block (w := x1.drew) (Below.heap_alloc x1.drew _ _ (hP.ht.lt htF))).trans hrow
    · exact wp_val (ex_move (.tmp 18) rfl ((eo 18 (Or.inl (by decide))).trans gx)) hK
    · exact wp_val (ex_index 37 (.tmp 222) (.tmp 223) rfl (e 3 (by decide) (by decide) (by kernel_rfl)) (e 4 (by decide) (by decide) (by kernel_rfl)) (hix w)) hK
  · intro o ho L a' hS hdep
    obtain rfl := Option.some.inj ho
    exact ex_build22 (.tmp 231) rfl (hS.ins 12 (by decide) (by decide) (hdep 12 (by kernel_rfl)))
  · intro o ho L a' hS hdep
    obtain rfl := Option.some.inj ho
    obtain ⟨g, c, w', τ', hr, r1, r2, r3, r4⟩ := (hP.ht.drew.alloc (.cells #[.int .i64 z] 3)).append3 (k := 0) (v := row) okr 22 22 (.int .i64 0) 8 Try.underlying22 Try.info3 rfl ok_zero0 (by decide) hL ⟨x1.heap.size, 0, none⟩ 1 [.int .i64 z] rfl (World.news_of_block (heap_alloc_new x1.drew _)) (by simp [Value.oneCell']) (fun u hu => ⟨z, by simpa using hu⟩)
    exact ⟨g, c, w', τ', ex_append (.tmp 230) (.tmp 232) 22 rfl (hS.ins 11 (by decide) (by decide) (hdep 11 (by kernel_rfl))) (hS.ins 13 (by decide) (by decide) (hdep 13 (by kernel_rfl))) hr, r1, r2, r3, r4 (by decide)⟩
  · intro o ho L a' w τ' g c hS hdep hPw hst hG hSl
    obtain rfl := Option.some.inj ho
    obtain ⟨u, hu, _, fu⟩ := hPw.ht.cell (hst.ext _ _ htF) rfl (i := i) (by omega)
    exact ⟨ex_storeS 22 (.tmp 234) (.tmp 233) rfl Try.cell22 (hS.ins 15 (by decide) (by decide) (hdep 15 (by kernel_rfl))) hG hu fu, hst.ext _ _ htF, hSl⟩

set_option maxRecDepth 100000 in
theorem reg56 (C : PC) (w0 x1 : World) (τ : Tags) (LL : Nat) (v4 v5 : Value) (hP : PSt C w0 x1 τ LL v4 v5) (hL : LL < 1099511627776) (bF lF cF : Nat) (hfv : ∀ w τw Lw, PSt C w0 w τw Lw v4 v5 → w.cell? ⟨C.pb, 6, none⟩ = some (.slice (some ⟨bF, 0, none⟩) lF cF)) (htF : τ bF = some (2, cF)) (hlF : lF ≤ cF)
    (a : Act) (hsz : a.tmps.size = 405) (g4 : G a 4 = .pointer (some ⟨C.pb, 0, none⟩)) (i : Nat) (z : Int) (gi : G a 22 = .int .i64 (i : Int)) (gx : G a 23 = .int .i64 z) (hi : i < lF) (Q : Exit → Act → World → Prop)
    (hK : ∀ a' x2 τ', a'.tmps.size = a.tmps.size → a'.defers = a.defers → (∀ s, s < 302 ∨ 302 + 16 ≤ s → G a' s = G a s) → PSt C w0 x2 τ' (LL + 1) v4 v5 → Stp τ x1 τ' x2 → K3 τ x1 x2 → Q .normal a' x2) : Code.wp Try.prog (regOf Try.f38 56) Q a x1 := by
  obtain ⟨row, hrow, okr, frow⟩ := hP.ht.cell htF rfl (i := i) (by omega)
  have hix := run_ix 37 22 bF lF cF i hi Try.underlying37 Try.cell22
  conv => arg 2; whnf
  refine region_app C w0 x1 τ LL v4 v5 hP a 302 16 13 14 0 (lenV row + 1) bF i 2 cF (fun j => [(.pointer (some ⟨C.pb, 0, none⟩) : Value), .pointer (some ⟨C.pb, 0, none⟩), .pointer (some ⟨C.pb, 6, none⟩), .slice (some ⟨bF, 0, none⟩) lF cF, .int .i64 (i : Int), .pointer (some ⟨C.pb, 0, none⟩), .pointer (some ⟨C.pb, 0, none⟩), .pointer (some ⟨C.pb, 6, none⟩), .slice (some ⟨bF, 0, none⟩) lF cF, .int .i64 (i : Int), .pointer (some ⟨bF, i, none⟩), row, .int .i64 z, .slice (some ⟨x1.heap.size, 0, none⟩) 1 1, undef, .pointer (some ⟨bF, i, none⟩)].getD j undef) (.cells #[.int .i64 z] 3) (by omega) (by kernel_rfl) (by kernel_rfl) (by kernel_rfl) (by decide) (by decide) (by kernel_rfl) (by kernel_rfl) ?_ ?_ ?_ ?_ (fun a' x2 τ' h1 h2 h3 h4 h5 h6 _ => hK a' x2 τ' h1 h2 h3 h4 h5 (h6 (by decide)))
  · intro j o ho hj nb na L a' w τw Lw hS hdep hPw hst hpre K hK
    have e : ∀ k, k < 16 → k ≠ 14 → waits _ j k = true → a'.eval (.tmp (302 + k)) = _ := fun k hk hn hw => hS.ins k hk hn (hdep k hw)
    have eo : ∀ s, (s < 302 ∨ 302 + 16 ≤ s) → a'.eval (.tmp s) = G a s := hS.out
    have hcF := hfv w τw Lw hPw
    obtain rfl | rfl | rfl | rfl | rfl | rfl | rfl | rfl | rfl | rfl | rfl | rfl | rfl | rfl : j = 0 ∨ j = 1 ∨ j = 2 ∨ j = 3 ∨ j = 4 ∨ j = 5 ∨ j = 6 ∨ j = 7 ∨ j = 8 ∨ j = 9 ∨ j = 10 ∨ j = 11 ∨ j = 12 ∨ j = 15 := by omega
    all_goals obtain rfl := Option.some.inj ho
    · exact wp_val (ex_move (.tmp 4) rfl ((eo 4 (Or.inl (by decide))).trans g4)) hK
    · exact wp_val (ex_nil (.tmp 302) rfl (e 0 (by decide) (by decide) (by kernel_rfl))) hK
    · exact wp_val (ex_field58 (.tmp 303) 6 (by decide) rfl (e 1 (by decide) (by decide) (by kernel_rfl))) hK
    · exact wp_val (ex_load 37 (.tmp 304) rfl agg37 (e 2 (by decide) (by decide) (by kernel_rfl)) hcF) hK
    · exact wp_val (ex_move (.tmp 22) rfl ((eo 22 (Or.inl (by decide))).trans gi)) hK
    · exact wp_val (ex_move (.tmp 4) rfl ((eo 4 (Or.inl (by decide))).trans g4)) hK
    · exact wp_val (ex_nil (.tmp 307) rfl (e 5 (by decide) (by decide) (by kernel_rfl))) hK
    · exact wp_val (ex_field58 (.tmp 308) 6 (by decide) rfl (e 6 (by decide) (by decide) (by kernel_rfl))) hK
    · exact wp_val (ex_load 37 (.tmp 309) rfl agg37 (e 7 (by decide) (by decide) (by kernel_rfl)) hcF) hK
    · exact wp_val (ex_move (.tmp 22) rfl ((eo 22 (Or.inl (by decide))).trans gi)) hK
    · exact wp_val (ex_index 37 (.tmp 310) (.tmp 311) rfl (e 8 (by decide) (by decide) (by kernel_rfl)) (e 9 (by decide) (by decide) (by kernel_rfl)) (hix w)) hK
    · refine wp_val (ex_load 22 (.tmp 312) rfl agg22 (e 10 (by decide) (by decide) (by kernel_rfl)) ?_) hK
      rcases hpre (by kernel_rfl) with h | h
      · rw [h]; exact hrow
      · rw [h]; exact (World.cell?_of_block (w := x1.drew) (Below.heap_alloc x1.drew _ _ (hP.ht.lt htF))).trans hrow
    · exact wp_val (ex_move (.tmp 23) rfl ((eo 23 (Or.inl (by decide))).trans gx)) hK
    · exact wp_val (ex_index 37 (.tmp 305) (.tmp 306) rfl (e 3 (by decide) (by decide) (by kernel_rfl)) (e 4 (by decide) (by decide) (by kernel_rfl)) (hix w)) hK
  · intro o ho L a' hS hdep
    obtain rfl := Option.some.inj ho
    exact ex_build22 (.tmp 314) rfl (hS.ins 12 (by decide) (by decide) (hdep 12 (by kernel_rfl)))
  · intro o ho L a' hS hdep
    obtain rfl := Option.some.inj ho
    obtain ⟨g, c, w', τ', hr, r1, r2, r3, r4⟩ := (hP.ht.drew.alloc (.cells #[.int .i64 z] 3)).append3 (k := 0) (v := row) okr 22 22 (.int .i64 0) 8 Try.underlying22 Try.info3 rfl ok_zero0 (by decide) hL ⟨x1.heap.size, 0, none⟩ 1 [.int .i64 z] rfl (World.news_of_block (heap_alloc_new x1.drew _)) (by simp [Value.oneCell']) (fun u hu => ⟨z, by simpa using hu⟩)
    exact ⟨g, c, w', τ', ex_append (.tmp 313) (.tmp 315) 22 rfl (hS.ins 11 (by decide) (by decide) (hdep 11 (by kernel_rfl))) (hS.ins 13 (by decide) (by decide) (hdep 13 (by kernel_rfl))) hr, r1, r2, r3, r4 (by decide)⟩
  · intro o ho L a' w τ' g c hS hdep hPw hst hG hSl
    obtain rfl := Option.some.inj ho
    obtain ⟨u, hu, _, fu⟩ := hPw.ht.cell (hst.ext _ _ htF) rfl (i := i) (by omega)
    exact ⟨ex_storeS 22 (.tmp 317) (.tmp 316) rfl Try.cell22 (hS.ins 15 (by decide) (by decide) (hdep 15 (by kernel_rfl))) hG hu fu, hst.ext _ _ htF, hSl⟩

set_option maxRecDepth 100000 in
theorem reg65 (C : PC) (w0 x1 : World) (τ : Tags) (LL : Nat) (v4 v5 : Value) (hP : PSt C w0 x1 τ LL v4 v5) (hL : LL < 1099511627776) (bF lF cF : Nat) (hfv : ∀ w τw Lw, PSt C w0 w τw Lw v4 v5 → w.cell? ⟨C.pb, 6, none⟩ = some (.slice (some ⟨bF, 0, none⟩) lF cF)) (htF : τ bF = some (2, cF)) (hlF : lF ≤ cF)
    (a : Act) (hsz : a.tmps.size = 405) (g4 : G a 4 = .pointer (some ⟨C.pb, 0, none⟩)) (i : Nat) (z : Int) (gi : G a 26 = .int .i64 (i : Int)) (gx : G a 11 = .int .i64 z) (hi : i < lF) (Q : Exit → Act → World → Prop)
    (hK : ∀ a' x2 τ', a'.tmps.size = a.tmps.size → a'.defers = a.defers → (∀ s, s < 363 ∨ 363 + 16 ≤ s → G a' s = G a s) → PSt C w0 x2 τ' (LL + 1) v4 v5 → Stp τ x1 τ' x2 → K3 τ x1 x2 → Q .normal a' x2) : Code.wp Try.prog (regOf Try.f38 65) Q a x1 := by
  obtain ⟨row, hrow, okr, frow⟩ := hP.ht.cell htF rfl (i := i) (by omega)
  have hix := run_ix 37 22 bF lF cF i hi Try.underlying37 Try.cell22
  conv => arg 2; whnf
  refine region_app C w0 x1 τ LL v4 v5 hP a 363 16 13 14 0 (lenV row + 1) bF i 2 cF (fun j => [(.pointer (some ⟨C.pb, 0, none⟩) : Value), .pointer (some ⟨C.pb, 0, none⟩), .pointer (some ⟨C.pb, 6, none⟩), .slice (some ⟨bF, 0, none⟩) lF cF, .int .i64 (i : Int), .pointer (some ⟨C.pb, 0, none⟩), .pointer (some ⟨C.pb, 0, none⟩), .pointer (some ⟨C.pb, 6, none⟩), .slice (some ⟨bF, 0, none⟩) lF cF, .int .i64 (i : Int), .pointer (some ⟨bF, i, none⟩), row, .int .i64 z, .slice (some ⟨x1.heap.size, 0, none⟩) 1 1, undef, .pointer (some ⟨bF, i, none⟩)].getD j undef) (.cells #[.int .i64 z] 3) (by omega) (by kernel_rfl) (by kernel_rfl) (by kernel_rfl) (by decide) (by decide) (by kernel_rfl) (by kernel_rfl) ?_ ?_ ?_ ?_ (fun a' x2 τ' h1 h2 h3 h4 h5 h6 _ => hK a' x2 τ' h1 h2 h3 h4 h5 (h6 (by decide)))
  · intro j o ho hj nb na L a' w τw Lw hS hdep hPw hst hpre K hK
    have e : ∀ k, k < 16 → k ≠ 14 → waits _ j k = true → a'.eval (.tmp (363 + k)) = _ := fun k hk hn hw => hS.ins k hk hn (hdep k hw)
    have eo : ∀ s, (s < 363 ∨ 363 + 16 ≤ s) → a'.eval (.tmp s) = G a s := hS.out
    have hcF := hfv w τw Lw hPw
    obtain rfl | rfl | rfl | rfl | rfl | rfl | rfl | rfl | rfl | rfl | rfl | rfl | rfl | rfl : j = 0 ∨ j = 1 ∨ j = 2 ∨ j = 3 ∨ j = 4 ∨ j = 5 ∨ j = 6 ∨ j = 7 ∨ j = 8 ∨ j = 9 ∨ j = 10 ∨ j = 11 ∨ j = 12 ∨ j = 15 := by omega
    all_goals obtain rfl := Option.some.inj ho
    · exact wp_val (ex_move (.tmp 4) rfl ((eo 4 (Or.inl (by decide))).trans g4)) hK
    · exact wp_val (ex_nil (.tmp 363) rfl (e 0 (by decide) (by decide) (by kernel_rfl))) hK
    · exact wp_val (ex_field58 (.tmp 364) 6 (by decide) rfl (e 1 (by decide) (by decide) (by kernel_rfl))) hK
    · exact wp_val (ex_load 37 (.tmp 365) rfl agg37 (e 2 (by decide) (by decide) (by kernel_rfl)) hcF) hK
    · exact wp_val (ex_move (.tmp 26) rfl ((eo 26 (Or.inl (by decide))).trans gi)) hK
    · exact wp_val (ex_move (.tmp 4) rfl ((eo 4 (Or.inl (by decide))).trans g4)) hK
    · exact wp_val (ex_nil (.tmp 368) rfl (e 5 (by decide) (by decide) (by kernel_rfl))) hK
    · exact wp_val (ex_field58 (.tmp 369) 6 (by decide) rfl (e 6 (by decide) (by decide) (by kernel_rfl))) hK
    · exact wp_val (ex_load 37 (.tmp 370) rfl agg37 (e 7 (by decide) (by decide) (by kernel_rfl)) hcF) hK
    · exact wp_val (ex_move (.tmp 26) rfl ((eo 26 (Or.inl (by decide))).trans gi)) hK
    · exact wp_val (ex_index 37 (.tmp 371) (.tmp 372) rfl (e 8 (by decide) (by decide) (by kernel_rfl)) (e 9 (by decide) (by decide) (by kernel_rfl)) (hix w)) hK
    · refine wp_val (ex_load 22 (.tmp 373) rfl agg22 (e 10 (by decide) (by decide) (by kernel_rfl)) ?_) hK
      rcases hpre (by kernel_rfl) with h | h
      · rw [h]; exact hrow
      · rw [h]; exact (World.cell?_of_block (w := x1.drew) (Below.heap_alloc x1.drew _ _ (hP.ht.lt htF))).trans hrow
    · exact wp_val (ex_move (.tmp 11) rfl ((eo 11 (Or.inl (by decide))).trans gx)) hK
    · exact wp_val (ex_index 37 (.tmp 366) (.tmp 367) rfl (e 3 (by decide) (by decide) (by kernel_rfl)) (e 4 (by decide) (by decide) (by kernel_rfl)) (hix w)) hK
  · intro o ho L a' hS hdep
    obtain rfl := Option.some.inj ho
    exact ex_build22 (.tmp 375) rfl (hS.ins 12 (by decide) (by decide) (hdep 12 (by kernel_rfl)))
  · intro o ho L a' hS hdep
    obtain rfl := Option.some.inj ho
    obtain ⟨g, c, w', τ', hr, r1, r2, r3, r4⟩ := (hP.ht.drew.alloc (.cells #[.int .i64 z] 3)).append3 (k := 0) (v := row) okr 22 22 (.int .i64 0) 8 Try.underlying22 Try.info3 rfl ok_zero0 (by decide) hL ⟨x1.heap.size, 0, none⟩ 1 [.int .i64 z] rfl (World.news_of_block (heap_alloc_new x1.drew _)) (by simp [Value.oneCell']) (fun u hu => ⟨z, by simpa using hu⟩)
    exact ⟨g, c, w', τ', ex_append (.tmp 374) (.tmp 376) 22 rfl (hS.ins 11 (by decide) (by decide) (hdep 11 (by kernel_rfl))) (hS.ins 13 (by decide) (by decide) (hdep 13 (by kernel_rfl))) hr, r1, r2, r3, r4 (by decide)⟩
  · intro o ho L a' w τ' g c hS hdep hPw hst hG hSl
    obtain rfl := Option.some.inj ho
    obtain ⟨u, hu, _, fu⟩ := hPw.ht.cell (hst.ext _ _ htF) rfl (i := i) (by omega)
    exact ⟨ex_storeS 22 (.tmp 378) (.tmp 377) rfl Try.cell22 (hS.ins 15 (by decide) (by decide) (hdep 15 (by kernel_rfl))) hG hu fu, hst.ext _ _ htF, hSl⟩

end Go.Proofs.Qxb6001364a
