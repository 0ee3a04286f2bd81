import Derived.Test.Qxb6003655aPlain
import Derived.Maps.RangeWalk
namespace Go.Proofs.Qxb6003655a
open Go.ChangeShapes Go.WideShapes Go.ChangeAt Go.RowKit Go.Maps
attribute [local go_sem ↓] Go.wp_at_zero Go.wp_at_succ

set_option maxRecDepth 100000 in
set_option maxHeartbeats 4000000 in
theorem fn_any (a0 a1 a2 : Option Addr) (c0 c1 c2 : Nat) (names texts : List ByteArray) (years : List Int) (p : ByteArray) (y : Int) (w : World)
    (h0 : RowView w a0 (names.map Value.string)) (h1 : RowView w a1 (years.map (Value.int .i16))) (h2 : RowView w a2 (texts.map Value.string))
    (b0 : names.length ≤ 9223372036854775807) (b1 : years.length ≤ 9223372036854775807) (b2 : texts.length ≤ 9223372036854775807) (bp : p.size ≤ 9223372036854775807)
    (z0 : ∀ k, (names.getD k ByteArray.empty).size ≤ 9223372036854775807) (z2 : ∀ k, (texts.getD k ByteArray.empty).size ≤ 9223372036854775807) (hyb : ∀ z ∈ years, -32768 ≤ z ∧ z ≤ 32767) :
    Calls Try.prog 3 #[.slice a0 names.length c0, .slice a1 years.length c1, .slice a2 texts.length c2, .string p, .int .i64 y] w fun e w' => e = .returned (.bool true) ∧ Below w.heap.size w w' := by
  go_enter Try.func3, Try.ntmps3
  go_wp2_with fail
  refine (bytes_any a0 a1 a2 c0 c1 c2 years.length names texts p y w h0 h2 b0 b1 b2 bp z0 z2).mono ?_
  rintro e w0 ⟨⟨b, rfl, hb⟩, rfl⟩
  clear z0 z2
  cases b with
  | false =>
    go_wp2
    go_ret
    exact ⟨rfl, Below.refl _ _⟩
  | true =>
    obtain ⟨s0, s2, sp⟩ := hb rfl
    have S0 : Hid (Short names names.length) := s0
    have S2 : Hid (Short texts texts.length) := s2
    clear hb
    by_cases g0 : names.length ≤ 65536
    · by_cases g1 : years.length ≤ 65536
      · by_cases g2 : texts.length ≤ 65536
        · go_wp2
          go_loop [11, 12] (fun t i => ∃ (k : Nat) (m : Int), k ≤ names.length ∧ 0 ≤ m ∧ m ≤ 4194304 ∧ i = .int .i64 k ∧ t = .int .i64 m) (fun _ i => names.length - (intOf i).toNat)
          case atStart => exact ⟨0, _, by omega, by omega, by omega, rfl, rfl⟩
          case round =>
            obtain ⟨k, m, hk, hm0, hm1, rfl, rfl⟩ := hrel
            by_cases hlt : k < names.length ∧ m ≤ 1048576
            · obtain ⟨hk1, hmm⟩ := hlt
              obtain ⟨b, off, hix, hb, hc⟩ := h0.str hk1 names.length c0 hk1
              have hz := s0 k hk1
              obtain ⟨s, hs⟩ : ∃ s, s = names.getD k ByteArray.empty := ⟨_, rfl⟩
              rw [← hs] at hc hz
              clear hs h0 h1 h2 s0 s2
              go_wp2
              go_round
              case rel => exact ⟨k + 1, _, by omega, by omega, by omega, by go_num, rfl⟩
              case measure => simp [intOf]; omega
            · by_cases hmm : m ≤ 1048576
              · have hk1 : ¬ k < names.length := fun h => hlt ⟨h, hmm⟩
                clear hlt s0
                go_wp2
                go_loop [11, 13] (fun t i => ∃ (k : Nat) (m : Int), k ≤ texts.length ∧ 0 ≤ m ∧ m ≤ 4194304 ∧ i = .int .i64 k ∧ t = .int .i64 m) (fun _ i => texts.length - (intOf i).toNat)
                case atStart => exact ⟨0, _, by omega, by omega, by omega, rfl, rfl⟩
                case round =>
                  clear hm0 hm1 hmm
                  obtain ⟨k2, m2, hk2, hm0, hm1, rfl, rfl⟩ := hrel
                  by_cases hlt : k2 < texts.length ∧ m2 ≤ 1048576
                  · obtain ⟨hk3, hmm⟩ := hlt
                    obtain ⟨b, off, hix, hb, hc⟩ := h2.str hk3 texts.length c2 hk3
                    have hz := s2 k2 hk3
                    obtain ⟨s, hs⟩ : ∃ s, s = texts.getD k2 ByteArray.empty := ⟨_, rfl⟩
                    rw [← hs] at hc hz
                    clear hs h0 h1 h2 s2
                    go_wp2
                    go_round
                    case rel => exact ⟨k2 + 1, _, by omega, by omega, by omega, by go_num, rfl⟩
                    case measure => simp [intOf]; omega
                  · by_cases hmm : m2 ≤ 1048576
                    · have hk3 : ¬ k2 < texts.length := fun h => hlt ⟨h, hmm⟩
                      clear hlt
                      by_cases e1 : names.length = years.length
                      · by_cases e2 : names.length = texts.length
                        · have f1 : ((names.length : Int) != (years.length : Int)) = false := by simp; omega
                          have f2 : ((names.length : Int) != (texts.length : Int)) = false := by simp; omega
                          have E1 : Hid _ := e1
                          have E2 : Hid _ := e2
                          clear e1 e2
                          go_wp2_with fail
                          refine (copyStrings_any a0 c0 names _ h0 g0).mono ?_
                          rintro e w1 ⟨a0', c0', rfl, v0, bel1⟩
                          go_wp2_with fail
                          refine (copyInt16s_any a1 c1 years w1 (h1.below bel1) g1).mono ?_
                          rintro e w2 ⟨a1', c1', rfl, v1, bel2⟩
                          go_wp2_with fail
                          refine (copyStrings_any a2 c2 texts w2 ((h2.below bel1).below bel2) g2).mono ?_
                          rintro e w3 ⟨a2', c2', rfl, v2, bel3⟩
                          go_wp2_with fail
                          refine (new_any w3).mono ?_
                          rintro e w4 ⟨rfl, hw4⟩
                          subst hw4
                          have u0 := (v0.below bel2).below bel3
                          have u1 := v1.below bel3
                          have BEL : Hid (Below w0.heap.size w0 w3) := (bel1.trans (bel2.mono bel1.size)).trans (bel3.mono (Nat.le_trans bel1.size bel2.size))
                          clear v0 v1 h0 h1 h2 bel1 bel2 bel3
                          obtain ⟨M, hMs, hM0, hmk⟩ := make_row 29 21 (.int .i32 0) 4 Try.underlying29 Try.info21 rfl names.length (by omega) (by omega)
                          have hmm := @run_makeMap Try.prog
                          go_wp2_with fail
                          rw [show w3.heap.size + 1 + 1 + 1 + 1 = w3.heap.size + 4 from rfl, show w3.heap.size + 1 + 1 + 1 = w3.heap.size + 3 from rfl]
                          go_loopw [18] (fun i wr => ∃ (jj : Nat) (f : ByteArray → Option Int) (A : Array Value), jj ≤ names.length ∧ i = .int .i64 ((jj : Int) - 1) ∧ L3 w3 wr names jj f A) (fun i _ => (intOf i + 1).toNat)
                          case atStart => exact ⟨names.length, _, M, Nat.le_refl _, rfl, L3.start w3 names M hMs hM0⟩
                          case round =>
                            obtain ⟨jj, f, A, hjj, rfl, hL⟩ := hrel
                            cases jj with
                            | zero =>
                              go_wp2_with fail
                              obtain ⟨w5, hw5⟩ : ∃ w5 : World, w5 = wr := ⟨_, rfl⟩
                              rw [← hw5] at hL ⊢
                              clear hw5
                              have sz := hL.size
                              have gr0 : Gr w5 w5.heap.size (w3.heap.size + 2) w3.heap.size (w3.heap.size + 1) [] [] := Gr.start hL.bgr hL.btr (by omega) (by omega)
                              have HL : Hid (L3 w3 w5 names 0 f A) := hL
                              clear hL hmk hmm hM0 hMs
                              go_loopw [21] (fun i wr => ∃ (k : Nat) (ms : List Mk) (ts : List ByteArray), k ≤ names.length ∧ i = .int .i64 k ∧ L4 w5 wr w5.heap.size (w3.heap.size + 2) w3.heap.size (w3.heap.size + 1) names texts years k ms ts) (fun i _ => names.length - (intOf i).toNat)
                              case atStart => exact ⟨0, [], [], Nat.zero_le _, rfl, L4.start gr0⟩
                              case round =>
                                clear gr0
                                obtain ⟨k, ms, ts, hk, rfl, h4⟩ := hrel
                                by_cases hkn : k < names.length
                                · have hkt : k < texts.length := by have := E2.out; omega
                                  have hky : k < years.length := by have := E1.out; omega
                                  obtain ⟨bt', offt, hixt, hbt, hct⟩ := v2.str hkt texts.length c2' hkt
                                  obtain ⟨by', offy, hixy, hby, hcy⟩ := u1.i16 hky years.length c1' hky
                                  have hss := S2.out k hkt
                                  obtain ⟨s, hs⟩ : ∃ s, s = texts.getD k ByteArray.empty := ⟨_, rfl⟩
                                  obtain ⟨yk, hyk⟩ : ∃ z, z = years.getD k 0 := ⟨_, rfl⟩
                                  rw [← hs] at hct hss
                                  rw [← hyk] at hcy
                                  have HS : Hid (texts[k]? = some s) := at_getD hs hkt
                                  have HY : Hid (years[k]? = some yk) := by
                                    show years[k]? = some yk
                                    rw [hyk, List.getD_eq_getElem?_getD]
                                    simp [hky]
                                  obtain ⟨v, hAv, hnv⟩ := HL.out.nhi k (Nat.zero_le _) hkn
                                  have hvb := next_bd hnv
                                  have HN : Hid (NextAt names k v) := hnv
                                  have old : ∀ (a : Addr) (x : Value), a.block < w3.heap.size → w3.cell? a = some x → wr.cell? a = some x := fun a x h1 h2 => by
                                    rw [h4.keep.cell (by omega) (by omega) (by omega), HL.out.bel.cell h1]; exact h2
                                  have kt := old _ _ hbt hct
                                  have ky := old _ _ hby hcy
                                  have kn : wr.cell? ⟨w3.heap.size + 3, k, none⟩ = some (.int .i32 v) := by
                                    rw [h4.keep.cell (by show w3.heap.size + 3 < _; omega) (by simp) (by simp), cell_of_row w5 _ _ _ _ _ HL.out.nxt]; exact hAv
                                  have H4 : Hid _ := h4
                                  have hml := h4.len
                                  have htl := h4.tlen
                                  clear old hs hyk hct hcy hnv h4 u0 u1 v2 hAv
                                  have hk0 : (0 : Int) ≤ (k : Int) := by omega
                                  have hk1 : (k : Int) < (names.length : Int) := by omega
                                  go_wp2_with fail
                                  refine (zzIntern_any wr w5.heap.size (w3.heap.size + 2) w3.heap.size (w3.heap.size + 1) ms ts s H4.out.gr hss (by omega)).mono ?_
                                  rintro e x1 ⟨i, ts', rfl, hG1, hpre, hpl, hi, hk1'⟩
                                  go_wp2_with fail
                                  have ky1 : x1.cell? ⟨by', offy + k, none⟩ = some (.int .i16 yk) := by rw [hk1'.cell (by show by' < _; omega) (by show by' ≠ _; omega) (by show by' ≠ _; omega)]; exact ky
                                  have kn1 : x1.cell? ⟨w3.heap.size + 3, k, none⟩ = some (.int .i32 v) := by rw [hk1'.cell (by show w3.heap.size + 3 < _; omega) (by simp) (by simp)]; exact kn
                                  have hwr : IntKind.i32.wrap ((k : Int) + 1) = (k : Int) + 1 := by rw [IntKind.wrap_i32]; omega
                                  have hwr2 : IntKind.i64.wrap ((k : Int) + 1) = (k : Int) + 1 := by rw [IntKind.wrap_i64]; omega
                                  have HG1 : Hid _ := hG1
                                  have HK1 : Hid _ := hk1'
                                  have HPR : Hid _ := hpre
                                  have HPL : Hid _ := hpl
                                  have HI : Hid _ := hi
                                  clear hG1 hk1' hpre hpl hi kt ky kn
                                  go_region_held3 (fun u => u.cell? ⟨by', offy + k, none⟩ = some (.int .i16 yk) ∧ u.cell? ⟨w3.heap.size + 3, k, none⟩ = some (.int .i32 v))
                                    (go_keep)
                                    ((go_at_call 11; refine (zzAdd_any x1.drew w5.heap.size (w3.heap.size + 2) w3.heap.size (w3.heap.size + 1) ms ts' ⟨(k : Int) + 1, yk, i, v⟩ HG1.out.drew (by omega)).mono ?_; rintro e x2 ⟨rfl, hG2, hk2⟩; have q1 : x2.cell? ⟨by', offy + k, none⟩ = some (.int .i16 yk) := (by rw [hk2.cell (by show by' < _; omega) (by show by' ≠ _; omega) (by show by' ≠ _; omega)]; exact ky1); have q2 : x2.cell? ⟨w3.heap.size + 3, k, none⟩ = some (.int .i32 v) := (by rw [hk2.cell (by show w3.heap.size + 3 < _; omega) (by simp) (by simp)]; exact kn1)))
                                  go_wp2
                                  refine ⟨?_, by simp [intOf]; omega⟩
                                  (repeat apply Exists.intro)
                                  refine ⟨⟨k + 1, ms ++ [⟨(k : Int) + 1, yk, i, v⟩], ts', ?_, ?_, ?_⟩, rfl⟩
                                  · omega
                                  · go_num
                                  · exact H4.out.step HPR.out HPL.out HI.out HS.out HY.out HN.out HK1.out hG2 hk2.undrew
                                · have hkk : k = names.length := by omega
                                  subst hkk
                                  obtain ⟨w6, hw6⟩ : ∃ w6 : World, w6 = wr := ⟨_, rfl⟩
                                  have h6 := h4
                                  rw [← hw6] at h6
                                  have HR : Hid (Rowed ms ts names texts years f) := rowed_of h6 E1.out.symm E2.out.symm hyb HL.out.from_
                                  have HF : Hid (MapF w6 w3.heap.size (names.length - 0) f) := HL.out.first.same (h6.keep.block _ (by omega) (by omega) (by omega))
                                  have H6 : Hid _ := h6
                                  have hml := h6.len
                                  have htl := h6.tlen
                                  go_wp2_with fail
                                  rw [← hw6]
                                  clear hw6 h4 h6
                                  refine (of_any w6 w5.heap.size (w3.heap.size + 2) w3.heap.size (w3.heap.size + 1) (names.length - 0) ms ts names texts years f p y H6.out.gr HF.out HR.out (by omega) (by omega) (by unfold maxLen; omega)).mono ?_
                                  rintro e w7 ⟨hans, bel7⟩
                                  have B37 : Below w3.heap.size w3 w7 := by
                                    have t1 := HL.out.bel
                                    have t2 := H6.out.keep.below (B := w3.heap.size) (by omega) (by omega) (by omega)
                                    have t3 : w3.heap.size ≤ w6.heap.size := Nat.le_trans t1.size t2.size
                                    exact (t1.trans t2).trans (bel7.mono t3)
                                  have B07 : Below w0.heap.size w0 w7 := BEL.out.trans (B37.mono BEL.out.size)
                                  have r0 := u0.below B37
                                  have r1 := u1.below B37
                                  have r2 := v2.below B37
                                  clear u0 u1 v2 bel7 B37
                                  rcases hans with ⟨j, t, hhit, hfirst, htj, rfl⟩ | ⟨hnone, rfl⟩
                                  · go_wp2
                                    generalize hW8 : w7.alloc (.cells #[.string t, .int .i64 ((j : Int) + 1)] 37) = w8
                                    have B78 : Below w7.heap.size w7 w8 := by rw [← hW8]; exact (Below.refl _ _).alloc (Nat.le_refl _) _
                                    have q0 : w8.cell? ⟨w7.heap.size, 0, none⟩ = some (.string t) := by rw [← hW8, cell_of_row _ _ _ _ _ _ (heap_alloc_new w7 _)]; rfl
                                    have q1 : w8.cell? ⟨w7.heap.size, 1, none⟩ = some (.int .i64 ((j : Int) + 1)) := by rw [← hW8, cell_of_row _ _ _ _ _ _ (heap_alloc_new w7 _)]; rfl
                                    have t0 := r0.below B78
                                    have t1 := r1.below B78
                                    have t2 := r2.below B78
                                    have B08 : Hid (Below w0.heap.size w0 w8) := B07.trans (B78.mono B07.size)
                                    clear r0 r1 r2 B07 B78 hW8
                                    go_loop [25] (fun i => ∃ k : Nat, k ≤ names.length ∧ i = .int .i64 k ∧ ∀ l, l < k → ¬ Hit names years p y l) (fun i => names.length - (intOf i).toNat)
                                    case atStart => exact ⟨0, Nat.zero_le _, rfl, fun l hl => absurd hl (Nat.not_lt_zero _)⟩
                                    case round =>
                                      obtain ⟨k, hk, rfl, hno⟩ := hrel
                                      by_cases hkn : k < names.length
                                      · have hky : k < years.length := by have := E1.out; omega
                                        obtain ⟨bn', offn, hixn, _, hcn⟩ := t0.str hkn names.length c0' hkn
                                        obtain ⟨by', offy, hixy, _, hcy⟩ := t1.i16 hky years.length c1' hky
                                        obtain ⟨s, hs⟩ : ∃ s, s = names.getD k ByteArray.empty := ⟨_, rfl⟩
                                        obtain ⟨yk, hyk⟩ : ∃ z, z = years.getD k 0 := ⟨_, rfl⟩
                                        rw [← hs] at hcn
                                        rw [← hyk] at hcy
                                        have HS : Hid (names[k]? = some s) := at_getD hs hkn
                                        have hY : years[k]? = some yk := by
                                          rw [hyk, List.getD_eq_getElem?_getD]
                                          simp [hky]
                                        obtain ⟨hy1, hy2⟩ := hyb yk (List.mem_of_getElem? hY)
                                        have HY : Hid _ := hY
                                        clear hs hyk hY
                                        go_wp2
                                        · have e1 : s.toList = p.toList := by assumption
                                          have e2 : (yk == y) = true := by assumption
                                          have hh : Hit names years p y k := hit_mk HS.out HY.out e1 e2
                                          have hjk : j = k := first_hit hhit hfirst hh hno
                                          subst hjk
                                          have hkt : j < texts.length := by have := E2.out; omega
                                          obtain ⟨bt', offt, hixt, _, hct⟩ := t2.str hkt texts.length c2' hkt
                                          have ht : texts.getD j ByteArray.empty = t := by rw [List.getD_eq_getElem?_getD, htj]; rfl
                                          rw [ht] at hct
                                          clear ht htj hhit hfirst hno hh t0 t1 t2 hcn hcy hixn hixy e1 e2
                                          go_quiet (fail)
                                          go_wp2
                                          go_ret
                                          exact ⟨by simp, below_drewN' B08.out _⟩
                                        · exact ⟨⟨k + 1, by omega, by go_num, no_hit_succ hno (no_hit_year HY.out (by assumption))⟩, by simp [intOf]; omega⟩
                                        · exact ⟨⟨k + 1, by omega, by go_num, no_hit_succ hno (no_hit_name HS.out (by assumption))⟩, by simp [intOf]; omega⟩
                                      · have hjn : j < names.length := (List.getElem?_eq_some_iff.1 hhit.1).1
                                        exact absurd hhit (hno j (by omega))
                                  · go_wp2
                                    generalize hW8 : w7.alloc (.cells #[.string ⟨#[]⟩, .int .i64 0] 37) = w8
                                    have B78 : Below w7.heap.size w7 w8 := by rw [← hW8]; exact (Below.refl _ _).alloc (Nat.le_refl _) _
                                    have q0 : w8.cell? ⟨w7.heap.size, 0, none⟩ = some (.string ⟨#[]⟩) := by rw [← hW8, cell_of_row _ _ _ _ _ _ (heap_alloc_new w7 _)]; rfl
                                    have q1 : w8.cell? ⟨w7.heap.size, 1, none⟩ = some (.int .i64 0) := by rw [← hW8, cell_of_row _ _ _ _ _ _ (heap_alloc_new w7 _)]; rfl
                                    have t0 := r0.below B78
                                    have t1 := r1.below B78
                                    have B08 : Hid (Below w0.heap.size w0 w8) := B07.trans (B78.mono B07.size)
                                    clear r0 r1 r2 B07 B78 hW8
                                    go_loop [25] (fun i => ∃ k : Nat, k ≤ names.length ∧ i = .int .i64 k) (fun i => names.length - (intOf i).toNat)
                                    case atStart => exact ⟨0, Nat.zero_le _, rfl⟩
                                    case round =>
                                      obtain ⟨k, hk, rfl⟩ := hrel
                                      by_cases hkn : k < names.length
                                      · have hky : k < years.length := by have := E1.out; omega
                                        obtain ⟨bn', offn, hixn, _, hcn⟩ := t0.str hkn names.length c0' hkn
                                        obtain ⟨by', offy, hixy, _, hcy⟩ := t1.i16 hky years.length c1' hky
                                        obtain ⟨s, hs⟩ : ∃ s, s = names.getD k ByteArray.empty := ⟨_, rfl⟩
                                        obtain ⟨yk, hyk⟩ : ∃ z, z = years.getD k 0 := ⟨_, rfl⟩
                                        rw [← hs] at hcn
                                        rw [← hyk] at hcy
                                        have HS : Hid (names[k]? = some s) := at_getD hs hkn
                                        have hY : years[k]? = some yk := by
                                          rw [hyk, List.getD_eq_getElem?_getD]
                                          simp [hky]
                                        obtain ⟨hy1, hy2⟩ := hyb yk (List.mem_of_getElem? hY)
                                        have HY : Hid _ := hY
                                        clear hs hyk hY
                                        go_wp2
                                        · have e1 : s.toList = p.toList := by assumption
                                          have e2 : (yk == y) = true := by assumption
                                          exact absurd (hit_mk HS.out HY.out e1 e2) (hnone k)
                                        · exact ⟨⟨k + 1, by omega, by go_num⟩, by simp [intOf]; omega⟩
                                        · exact ⟨⟨k + 1, by omega, by go_num⟩, by simp [intOf]; omega⟩
                                      · go_wp2
                                        go_ret
                                        exact ⟨by simp, B08.out⟩
                            | succ j =>
                              rw [show (((j + 1 : Nat) : Int) - 1) = (j : Int) from by omega]
                              have hjn : j < names.length := by omega
                              have hjb : (j : Int) ≤ 65535 := by omega
                              obtain ⟨b, off, hix, hb, hc3⟩ := u0.str hjn names.length c0' hjn
                              have hss := S0.out j hjn
                              obtain ⟨s, hs⟩ : ∃ s, s = names.getD j ByteArray.empty := ⟨_, rfl⟩
                              rw [← hs] at hc3 hss
                              have HS : Hid (names[j]? = some s) := at_getD hs hjn
                              have hc : wr.cell? ⟨b, off + j, none⟩ = some (.string s) := by rw [hL.bel.cell (by exact hb)]; exact hc3
                              have HL : Hid (L3 w3 wr names (j + 1) f A) := hL
                              have hsm : s.size ≤ maxLen := by unfold maxLen; omega
                              have hbg0 : wr.cell? ⟨w3.heap.size + 2, 0, none⟩ = some (.map (some w3.heap.size)) := by rw [cell_of_row wr _ _ _ _ _ hL.bgr]; rfl
                              have hAj : A[j]? = some (.int .i32 0) := hL.nlo j (by omega)
                              clear hs hc3 u0 u1 v2 hL
                              cases hf : f s with
                              | none =>
                                go_wp2_with (first
                                  | (at_lookup; go_must (refine wpList_lookF _ rfl _ _ rfl (w3.heap.size + 4) (names.length - (j + 1)) f rfl HL.out.seen s rfl hsm ?_))
                                  | (at_mapUpdate; go_must (refine wpList_putF _ rfl _ _ _ rfl (w3.heap.size + 4) (names.length - (j + 1)) f rfl HL.out.seen (by unfold maxLen; omega) s rfl hsm j rfl (WalkArith.wf_i32 (by omega)) ?_; intro x1 hM1 hg1; have hc1 : x1.cell? ⟨b, off + j, none⟩ = some (.string s) := hg1.cell hc (by simp; omega)))
                                  | (go_at_call 9; go_must (refine (setFirst_any x1 (w3.heap.size + 2) w3.heap.size (names.length - (j + 1)) f s j (hg1.cell hbg0 (by simp)) (HL.out.first.grown hg1 (by simp)) (by unfold maxLen; omega) hsm (WalkArith.wf_i32 (by omega))).mono ?_; rintro e x2 ⟨rfl, hM2, hg2⟩)))
                                exact ⟨⟨j, _, A, by omega, rfl, HL.out.step HS.out wr (.inl ⟨rfl, rfl⟩) hAj (next_none HL.out.from_ HS.out hf) hM1 hg1 hM2 hg2⟩, by simp [intOf] <;> omega⟩
                              | some c =>
                                have hcb := next_bd (next_some HL.out.from_ HS.out hf)
                                have hcn : wr.cell? ⟨w3.heap.size + 3, j, none⟩ = some (.int .i32 0) := by rw [cell_of_row wr _ _ _ _ _ HL.out.nxt]; exact hAj
                                have hfn : wr.frozen? ⟨w3.heap.size + 3, j, none⟩ = false := frozen_of_row wr _ _ _ _ HL.out.nxt
                                have hne : b ≠ w3.heap.size + 3 := by omega
                                have hM' : MapF (wr.setCell ⟨w3.heap.size + 3, j, none⟩ (.int .i32 c)) (w3.heap.size + 4) (names.length - (j + 1)) f := HL.out.seen.same (heap_setCell_other _ _ _ _ (by simp))
                                have hM'' : MapF (wr.setCell ⟨w3.heap.size + 3, j, none⟩ (.int .i32 c)) w3.heap.size (names.length - (j + 1)) f := HL.out.first.same (heap_setCell_other _ _ _ _ (by simp))
                                have hcc : (wr.setCell ⟨w3.heap.size + 3, j, none⟩ (.int .i32 c)).cell? ⟨b, off + j, none⟩ = some (.string s) := by rw [World.cell?_of_block (heap_setCell_other _ _ _ _ (by exact hne))]; exact hc
                                have hbg' : (wr.setCell ⟨w3.heap.size + 3, j, none⟩ (.int .i32 c)).cell? ⟨w3.heap.size + 2, 0, none⟩ = some (.map (some w3.heap.size)) := by rw [World.cell?_of_block (heap_setCell_other _ _ _ _ (by simp))]; exact hbg0
                                go_wp2_with (first
                                  | (at_lookup; go_must (refine wpList_lookF _ rfl _ _ rfl (w3.heap.size + 4) (names.length - (j + 1)) f rfl HL.out.seen s rfl hsm ?_))
                                  | (at_mapUpdate; go_must (refine wpList_putF _ rfl _ _ _ rfl (w3.heap.size + 4) (names.length - (j + 1)) f rfl hM' (by unfold maxLen; omega) s rfl hsm j rfl (WalkArith.wf_i32 (by omega)) ?_; intro x1 hM1 hg1; have hc1 : x1.cell? ⟨b, off + j, none⟩ = some (.string s) := hg1.cell hcc (by simp; omega)))
                                  | (go_at_call 9; go_must (refine (setFirst_any x1 (w3.heap.size + 2) w3.heap.size (names.length - (j + 1)) f s j (hg1.cell hbg' (by simp)) (hM''.grown hg1 (by simp)) (by unfold maxLen; omega) hsm (WalkArith.wf_i32 (by omega))).mono ?_; rintro e x2 ⟨rfl, hM2, hg2⟩)))
                                exact ⟨⟨j, _, _, by omega, rfl, HL.out.step HS.out _ (.inr ⟨rfl, rfl⟩) (by rw [Array.getElem?_setIfInBounds_self_of_lt (by rw [HL.out.nsz]; exact hjn)]) (next_some HL.out.from_ HS.out hf) hM1 hg1 hM2 hg2⟩, by simp [intOf] <;> omega⟩
                        · have f1 : ((names.length : Int) != (years.length : Int)) = false := by simp; omega
                          have f2 : ((names.length : Int) != (texts.length : Int)) = true := by simp; omega
                          clear e1 e2
                          go_wp2
                          go_ret
                          exact ⟨rfl, Below.refl _ _⟩
                      · have f1 : ((names.length : Int) != (years.length : Int)) = true := by simp; omega
                        clear e1
                        go_wp2
                        go_ret
                        exact ⟨rfl, Below.refl _ _⟩
                    · have hd2 : decide (m2 ≤ 1048576) = false := by simpa using hmm
                      clear hlt
                      by_cases hk3 : k2 < texts.length
                      all_goals
                        go_wp2
                        go_ret
                        exact ⟨rfl, Below.refl _ _⟩
              · have hd2 : decide (m ≤ 1048576) = false := by simpa using hmm
                clear hlt
                by_cases hk1 : k < names.length
                all_goals
                  go_wp2
                  refine wp_loop_rounds 1 ?_
                  rw [rounds_succ]
                  by_cases hk3 : 0 < texts.length
                  all_goals
                    go_wp2
                    go_ret
                    exact ⟨rfl, Below.refl _ _⟩
        · go_wp2
          go_ret
          exact ⟨rfl, Below.refl _ _⟩
      · go_wp2
        go_ret
        exact ⟨rfl, Below.refl _ _⟩
    · go_wp2
      go_ret
      exact ⟨rfl, Below.refl _ _⟩
end Go.Proofs.Qxb6003655a
