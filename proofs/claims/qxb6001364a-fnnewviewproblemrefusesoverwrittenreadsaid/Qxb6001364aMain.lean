import Derived.Test.Qxb6001364aPlain
namespace Go.Proofs.Qxb6001364a
open Go.ChangeShapes Go.WideShapes Go.ChangeAt Go.RowKit Go.Maps

theorem hist_mk : ∀ (zs : List Int) (wrs : List Bool) (its : List Nat), wrs.length = zs.length → its.length = zs.length → (∀ z ∈ zs, 0 ≤ z) →
    ∃ hs : Hist, (hs.map fun e => (e.1 : Int)) = zs ∧ (hs.map fun e => e.2.1) = wrs ∧ (hs.map fun e => e.2.2) = its
  | [], [], [], _, _, _ => ⟨[], rfl, rfl, rfl⟩
  | z :: zs, b :: wrs, t :: its, h1, h2, h3 => by
    obtain ⟨hs, q1, q2, q3⟩ := hist_mk zs wrs its (by simpa using h1) (by simpa using h2) (fun y hy => h3 y (by simp [hy]))
    have := h3 z (by simp)
    exact ⟨(z.toNat, b, t) :: hs, by simp [q1]; omega, by simp [q2], by simp [q3]⟩
  | [], _ :: _, _, h, _, _ => by simp at h
  | [], [], _ :: _, _, h, _ => by simp at h
  | _ :: _, [], _, h, _, _ => by simp at h
  | _ :: _, _ :: _, [], _, h, _ => by simp at h

set_option maxHeartbeats 4000000 in
set_option maxRecDepth 100000 in
/-- The law returns true, whatever the input. -/
theorem fn_any (n : Int) (a1 a2 a3 : Option Addr) (c1 c2 c3 : Nat) (zs is : List Int) (wrs : List Bool) (w : World) (h1 : RowView w a1 (zs.map (Value.int .i64))) (h2 : RowView w a2 (is.map (Value.int .i64))) (h3 : RowView w a3 (wrs.map Value.bool))
    (l1 : zs.length ≤ 9223372036854775807) (l2 : is.length ≤ 9223372036854775807) (l3 : wrs.length ≤ 9223372036854775807) (fz : ∀ z ∈ zs, Fits z) (fi : ∀ z ∈ is, Fits z) :
    Calls Try.prog 4 #[.int .i64 n, .slice a1 zs.length c1, .slice a2 is.length c2, .slice a3 wrs.length c3] w fun e w' => e = .returned (.bool true) ∧ Below w.heap.size w w' := by
  go_enter Try.func4, Try.ntmps4
  go_wp2_with fail
  refine (bytes_any n a1 a2 a3 zs.length is.length wrs.length c1 c2 c3 w l1 l2 l3).mono ?_
  rintro e w0 ⟨⟨b, rfl, -⟩, rfl⟩
  cases b with
  | false =>
    go_wp2
    go_ret
    exact ⟨rfl, Below.refl _ _⟩
  | true =>
    by_cases g1 : zs.length ≤ 65536
    case neg =>
      go_wp2
      go_ret
      exact ⟨rfl, Below.refl _ _⟩
    by_cases g2 : is.length ≤ 65536
    case neg =>
      go_wp2
      go_ret
      exact ⟨rfl, Below.refl _ _⟩
    by_cases g3 : wrs.length ≤ 65536
    case neg =>
      go_wp2
      go_ret
      exact ⟨rfl, Below.refl _ _⟩
    by_cases g4 : 8 * zs.length + 8 * is.length + wrs.length ≤ 1048576
    case neg =>
      go_wp2
      go_ret
      exact ⟨rfl, Below.refl _ _⟩
    by_cases g5 : 0 ≤ n
    case neg =>
      go_wp2
      go_ret
      exact ⟨rfl, Below.refl _ _⟩
    by_cases g6 : n ≤ 65536
    case neg =>
      go_wp2
      go_ret
      exact ⟨rfl, Below.refl _ _⟩
    obtain ⟨N, rfl⟩ := Int.eq_ofNat_of_zero_le g5
    go_wp2_with fail
    refine (cloneInts_any a1 c1 zs w0 h1 g1).mono ?_
    rintro e w1 ⟨a1', c1', rfl, v1, bel1⟩
    go_wp2_with fail
    refine (cloneInts_any a2 c2 is w1 (h2.below bel1) g2).mono ?_
    rintro e w2 ⟨a2', c2', rfl, v2, bel2⟩
    go_wp2_with fail
    refine (cloneBools_any a3 c3 wrs w2 ((h3.below bel1).below bel2) g3).mono ?_
    rintro e w3 ⟨a3', c3', rfl, v3, bel3⟩
    have u1 := (v1.below bel2).below bel3
    have u2 := v2.below bel3
    have b3 : Below w0.heap.size w0 w3 := (bel1.trans (bel2.mono bel1.size)).trans (bel3.mono (Nat.le_trans bel1.size bel2.size))
    clear v1 v2 h1 h2 h3 bel1 bel2 bel3
    go_wp2_with fail
    refine (hist_any (N : Int) a1' a2' a3' c1' c2' c3' is.length wrs.length zs w3 u1 g1 g2 g3).mono ?_
    rintro e w4 ⟨⟨b, rfl, hb⟩, rfl⟩
    cases b with
    | false =>
      go_wp2
      go_ret
      exact ⟨rfl, b3⟩
    | true =>
      obtain ⟨q2, q3, hnn⟩ := hb rfl
      have HQ : Hid (is.length = zs.length ∧ wrs.length = zs.length) := ⟨q2, q3⟩
      clear hb q2 q3
      go_wp2_with fail
      refine (items_any a2' c2' is w4 u2 g2 fi).mono ?_
      rintro e w5 ⟨its, k, hio⟩
      obtain ⟨rfl, hil, hilt, hile, hiv, bel5⟩ := hio
      have t1 := u1.below bel5
      have t3 := v3.below bel5
      have b5 : Below w0.heap.size w0 w5 := b3.trans (bel5.mono b3.size)
      clear u1 u2 v3
      go_wp2_with fail
      have hov := over_any a1' a3' (some ⟨w4.heap.size + 1, 0, none⟩) c1' c3' is.length zs wrs its k w5 t1 t3 hiv g1 HQ.out.2 (hil.trans HQ.out.1) (by omega) hilt fz
      rw [HQ.out.1] at hov
      rw [HQ.out.1, HQ.out.2]
      refine hov.mono ?_
      clear hov
      rintro e w6 ⟨⟨b, rfl, hb⟩, bel6⟩
      have b6 : Below w0.heap.size w0 w6 := b5.trans (bel6.mono b5.size)
      cases b with
      | false =>
        go_wp2
        go_ret
        exact ⟨rfl, b6⟩
      | true =>
        have hbad := hb rfl
        clear hb
        obtain ⟨hs, rfl, rfl, rfl⟩ := hist_mk zs wrs its HQ.out.2 (hil.trans HQ.out.1) (fun z hz => (hnn z hz).1)
        have hit : ∀ e ∈ hs, e.2.2 < k := fun e he => hilt _ (List.mem_map.2 ⟨e, he, rfl⟩)
        have hnode : ∀ e ∈ hs, e.1 < N := fun e he => by
          have := (hnn _ (List.mem_map.2 ⟨e, he, rfl⟩)).2
          omega
        have hH : HIn w6 a1' a3' (some ⟨w4.heap.size + 1, 0, none⟩) hs := ⟨t1.below bel6, t3.below bel6, by
          have := hiv.below bel6
          simpa [Function.comp_def] using this⟩
        have hpr := prob_any w6 N k c1' c3' hs.length a1' a3' (some ⟨w4.heap.size + 1, 0, none⟩) hs hH (by simpa using g1) (by omega) (by omega) hit hnode (bad_of_hist hit hbad)
        clear hH t1 t3 hiv hbad hilt hnn hil HQ
        simp only [List.length_map] at *
        go_wp2_with (go_at_call 16; refine hpr.mono ?_; rintro e w7 ⟨rfl, bel7⟩)
        go_ret
        exact ⟨rfl, b6.trans (bel7.mono b6.size)⟩

end Go.Proofs.Qxb6001364a
