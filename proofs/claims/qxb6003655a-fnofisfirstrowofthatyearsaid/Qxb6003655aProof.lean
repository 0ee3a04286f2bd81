/- THE STATEMENT, out of the law's walk (Qxb6003655aMain): each argument is opened, and read again behind the call by 'Below.trod'. -/
import Derived.Test.Qxb6003655aMain
namespace Go.Proofs.Qxb6003655a
open Go.ChangeShapes Go.WideShapes Go.ChangeAt Go.RowKit
open Go.ChangeMaps (open_string shut_string)

theorem own : ownKnob Try.prog.godebug = none := by kernel_rfl
theorem laidOut : laidOutB Try.prog = true := by kernel_rfl

theorem view_of_cells {w : World} {a : Addr} {vs : List Value} (h : ∀ i, i < vs.length → w.cell? (a.add i) = vs[i]?) : RowView w (some a) vs := by
  refine ⟨fun k hk => ?_, fun h => by cases h⟩
  obtain ⟨b, off, spot⟩ := a
  have h0 := h 0 (by omega)
  have hv : vs[0]? = some (vs[0]'(by omega)) := List.getElem?_eq_getElem (by omega)
  rw [hv] at h0
  have hspot : spot = none := by simpa [Addr.add] using World.cell?_spot h0
  subst hspot
  refine ⟨b, off, rfl, ?_, fun i hi => by rw [← add_plain]; exact h i hi⟩
  have := World.block_lt_of_cell? w _ h0
  have e : ((⟨b, off, none⟩ : Addr).add 0).block = b := by rw [add_plain]
  rw [e] at this
  exact this

theorem view_empty {w : World} (a : Option Addr) : RowView w a [] := ⟨fun k hk => by simp at hk, fun _ => rfl⟩

/-- A slice of strings that came in: its elements. -/
theorem strs_in {H : Type} {enc : TypeId × Value → H} {W : World} {v : Value} {d : DataW H} {p : List MemPlace} {a : Option Addr} {len cap : Nat} (hv : v = .slice a len cap) (h : DataW.Trod enc Try.prog W 0 (fun _ => true) true 22 v d p) :
    ∃ ss : List ByteArray, ss.length = len ∧ RowView W a (ss.map Value.string) ∧ len ≤ 9223372036854775807 ∧ ∀ k, (ss.getD k ByteArray.empty).size ≤ 9223372036854775807 := by
  subst hv
  obtain ⟨fuel, hf⟩ := h
  rcases open_strings Try.underlying22 Try.underlying9 (by kernel_rfl) hf with ⟨hcs, _⟩ | ⟨x, l, c, ss, hcs, _, hl, hm, hz, _, hcell, hsz⟩
  · simp [Value.cells] at hcs
    obtain ⟨rfl, rfl, rfl⟩ := hcs
    exact ⟨[], rfl, view_empty _, by omega, fun k => by simp [List.getD_eq_getElem?_getD]⟩
  · simp [Value.cells] at hcs
    obtain ⟨rfl, rfl, rfl⟩ := hcs
    simp at hz
    have hm' : cap ≤ 9223372036854775807 := hm
    refine ⟨ss.take len, by simp; omega, view_of_cells fun i hi => ?_, by omega, fun k => ?_⟩
    · simp at hi
      rw [hcell i (by omega), List.getElem?_map, List.getElem?_take_of_lt (by omega), List.getD_eq_getElem?_getD, List.getElem?_eq_getElem (by omega)]
      rfl
    · rw [List.getD_eq_getElem?_getD]
      cases hk : (ss.take len)[k]? with
      | none => exact Nat.zero_le _
      | some s => exact hsz s (List.mem_of_mem_take (List.mem_of_getElem? hk))

/-- A slice of int16s that came in. -/
theorem i16s_in {H : Type} {enc : TypeId × Value → H} {W : World} {v : Value} {d : DataW H} {p : List MemPlace} {a : Option Addr} {len cap : Nat} (hv : v = .slice a len cap) (h : DataW.Trod enc Try.prog W 0 (fun _ => true) true 23 v d p) :
    ∃ zs : List Int, zs.length = len ∧ RowView W a (zs.map (Value.int .i16)) ∧ len ≤ 9223372036854775807 ∧ ∀ z ∈ zs, -32768 ≤ z ∧ z ≤ 32767 := by
  subst hv
  obtain ⟨fuel, hf⟩ := h
  rcases open_ints Try.underlying23 Try.underlying35 (by kernel_rfl) hf with ⟨hcs, _⟩ | ⟨x, l, c, zs, hcs, _, hl, hm, hz, _, hcell, hwz⟩
  · simp [Value.cells] at hcs
    obtain ⟨rfl, rfl, rfl⟩ := hcs
    exact ⟨[], rfl, view_empty _, by omega, by simp⟩
  · simp [Value.cells] at hcs
    obtain ⟨rfl, rfl, rfl⟩ := hcs
    simp at hz
    have hm' : cap ≤ 9223372036854775807 := hm
    refine ⟨zs.take len, by simp; omega, view_of_cells fun i hi => ?_, by omega, fun z hz' => ?_⟩
    · simp at hi
      rw [hcell i (by omega), List.getElem?_map, List.getElem?_take_of_lt (by omega), List.getD_eq_getElem?_getD, List.getElem?_eq_getElem (by omega)]
      rfl
    · have := Go.bounds_i16 (hwz z (List.mem_of_mem_take hz'))
      omega

set_option maxRecDepth 100000 in
theorem lifted (os : Os) (started : os.Started) (H : Type) (enc : TypeId × Value → H) :
    ReturnsInHanded {} Try.checked os 3 .any (Rows.fnOfIsFirstRowOfThatYearSpec.pre6 enc Try.prog Try.f3 Rows.fnOfIsFirstRowOfThatYearRow.domain false) (Rows.fnOfIsFirstRowOfThatYearSpec.post enc Try.prog Try.f3 false true false false) := by
  refine returnsInHanded_of_change (C := Try.checked) own started (by kernel_rfl) Try.func3
    (ChangeSpec.witness6 (enc := enc) (C := Try.checked) false ⟨#[], #[.slice none 0 0, .slice none 0 0, .slice none 0 0, .string ByteArray.empty, .int .i64 0], []⟩ 8 (by kernel_rfl) (by kernel_rfl) (by kernel_rfl) (by kernel_rfl)) ?_
  intro W base args ds gs before hval0 hW hcnd _
  have hval : ∀ (j : Nat) t v, Try.f3.params[j]? = some t → args[j]? = some v → Value.okWide Try.prog W .any base t v := hval0
  have hW' := hW
  obtain ⟨p, q, hA0, hV, rfl, hfz, hnd⟩ := hW
  have hA : DataW.TrodAll enc Try.prog W 0 (fun _ => true) true Try.f3.params.toList args.toList ds p := hA0
  rw [Try.params3] at hA hval
  obtain ⟨v0, vs0, d0, ds0, p0, q0, hargs, rfl, rfl, h0, r0⟩ := trodAll_cons hA
  obtain ⟨v1, vs1, d1, ds1, p1, q1, rfl, rfl, rfl, h1, r1⟩ := trodAll_cons r0
  obtain ⟨v2, vs2, d2, ds2, p2, q2, rfl, rfl, rfl, h2, r2⟩ := trodAll_cons r1
  obtain ⟨v3, vs3, d3, ds3, p3, q3, rfl, rfl, rfl, h3, r3⟩ := trodAll_cons r2
  obtain ⟨v4, vs4, d4, ds4, p4, q4, rfl, rfl, rfl, h4, r4⟩ := trodAll_cons r3
  obtain ⟨rfl, rfl, rfl⟩ := trodAll_nil r4
  obtain rfl : args = #[v0, v1, v2, v3, v4] := by cases args; simp_all
  obtain ⟨rfl, rfl⟩ := trodVars_none hV
  obtain ⟨a0, len0, cap0, rfl⟩ := okWide_slice Try.underlying22 (hval 0 22 v0 rfl rfl)
  obtain ⟨a1, len1, cap1, rfl⟩ := okWide_slice Try.underlying23 (hval 1 23 v1 rfl rfl)
  obtain ⟨a2, len2, cap2, rfl⟩ := okWide_slice Try.underlying22 (hval 2 22 v2 rfl rfl)
  have lt0 : ∀ x ∈ p0, x.block < W.heap.size := by obtain ⟨m, hm⟩ := h0; exact DataW.trod_lt m _ _ _ hm
  have lt1 : ∀ x ∈ p1, x.block < W.heap.size := by obtain ⟨m, hm⟩ := h1; exact DataW.trod_lt m _ _ _ hm
  have lt2 : ∀ x ∈ p2, x.block < W.heap.size := by obtain ⟨m, hm⟩ := h2; exact DataW.trod_lt m _ _ _ hm
  obtain ⟨ss, rfl, s1, s2, s3⟩ := strs_in rfl h0
  obtain ⟨zs, rfl, z1, z2, z3⟩ := i16s_in rfl h1
  obtain ⟨ts, rfl, t1, t2, t3⟩ := strs_in rfl h2
  obtain ⟨a3, rfl, rfl, rfl, w3⟩ := open_string Try.underlying9 (hval 3 9 v3 rfl rfl) h3
  obtain ⟨a4, rfl, rfl, rfl, w4⟩ := open_int Try.underlying3 (hval 4 3 v4 rfl rfl) h4
  clear hA0 hval0
  refine (fn_any a0 a1 a2 cap0 cap1 cap2 ss ts zs a3 a4 W s1 z1 t1 s2 z2 t2 w3 s3 t3 z3).mono fun e W' ⟨he, bel⟩ => ?_
  subst he
  exact ⟨_, rfl, _, _, _, [], _, [], hW', trodAll_mk1 (shut_bool Try.underlying4 _), (trodAll_cons_mk (Below.trod laidOut (by kernel_rfl) (of_decide_eq_true (by kernel_rfl)) h0 bel lt0) (trodAll_cons_mk (Below.trod laidOut (by kernel_rfl) (of_decide_eq_true (by kernel_rfl)) h1 bel lt1) (trodAll_cons_mk (Below.trod laidOut (by kernel_rfl) (of_decide_eq_true (by kernel_rfl)) h2 bel lt2) (trodAll_cons_mk (shut_string Try.underlying9 w3) (trodAll_cons_mk (shut_int Try.underlying3 w4) trodAll_mk0))))), rfl, bel.frame _, fun h => by cases h⟩

theorem over : Rows.fnOfIsFirstRowOfThatYearRow.holds Try.pinned (OpenSpec.ofChange Rows.fnOfIsFirstRowOfThatYearSpec) :=
  OpenClaim.holds_of_wide 3 Try.f3 rfl rfl rfl rfl rfl rfl rfl ⟨rfl, rfl, rfl, rfl, rfl⟩ rfl rfl rfl rfl rfl (by kernel_rfl) Try.func3 (by kernel_rfl)
    (of_decide_eq_true (by kernel_rfl)) (by unfold Func.isWrapper; first | (rw [if_pos (by decide +kernel)]; kernel_rfl) | (rw [if_neg (by decide +kernel)]; exact ⟨rfl, rfl⟩))
    (fun os started H enc _ => lifted os started H enc)

/-- THE STATEMENT. -/
theorem proved : Rows.FnOfIsFirstRowOfThatYearSaid := over
end Go.Proofs.Qxb6003655a
