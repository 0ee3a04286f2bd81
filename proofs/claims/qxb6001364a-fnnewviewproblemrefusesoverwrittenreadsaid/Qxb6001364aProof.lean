/- THE STATEMENT, out of the law's walk (Qxb6001364aMain): each argument is opened, and read again behind the call by 'Below.trod'. -/
import Derived.Test.Qxb6001364aMain
import Derived.Deep.Grids
namespace Go.Proofs.Qxb6001364a
open Go.ChangeShapes Go.WideShapes Go.ChangeAt Go.RowKit

theorem own : ownKnob Try.prog.godebug = none := by kernel_rfl

theorem view_of_cells {w : World} {a : Addr} {vs : List Value} (h : ∀ i, i < vs.length → w.cell? (a.add i) = vs[i]?) : RowView w (some a) vs := by
  refine ⟨fun k hk => ?_, fun h => by cases h⟩
  obtain ⟨b, off, spot⟩ := a
  have h0 := h 0 (by omega)
  have hv : vs[0]? = some (vs[0]'(by omega)) := List.getElem?_eq_getElem (by omega)
  rw [hv] at h0
  have hspot : spot = none := by simpa [Addr.add] using World.cell?_spot h0
  subst hspot
  refine ⟨b, off, rfl, ?_, fun i hi => by rw [← add_plain]; exact h i hi⟩
  have := World.block_lt_of_cell? w _ h0
  have e : ((⟨b, off, none⟩ : Addr).add 0).block = b := by rw [add_plain]
  rw [e] at this
  exact this

theorem view_empty {w : World} (a : Option Addr) : RowView w a [] := ⟨fun k hk => by simp at hk, fun _ => rfl⟩

/-- A slice of ints that came in. -/
theorem ints_in {H : Type} {enc : TypeId × Value → H} {W : World} {v : Value} {d : DataW H} {p : List MemPlace} {a : Option Addr} {len cap : Nat} (hv : v = .slice a len cap) (h : DataW.Trod enc Try.prog W 0 (fun _ => true) true 22 v d p) :
    ∃ zs : List Int, zs.length = len ∧ RowView W a (zs.map (Value.int .i64)) ∧ len ≤ 9223372036854775807 ∧ ∀ z ∈ zs, Fits z := by
  subst hv
  obtain ⟨fuel, hf⟩ := h
  rcases open_ints Try.underlying22 Try.underlying3 (by kernel_rfl) hf with ⟨hcs, _⟩ | ⟨x, l, c, zs, hcs, _, hl, hm, hz, _, hcell, hwz⟩
  · simp [Value.cells] at hcs
    obtain ⟨rfl, rfl, rfl⟩ := hcs
    exact ⟨[], rfl, view_empty _, by omega, by simp⟩
  · simp [Value.cells] at hcs
    obtain ⟨rfl, rfl, rfl⟩ := hcs
    simp at hz
    have hm' : cap ≤ 9223372036854775807 := hm
    refine ⟨zs.take len, by simp; omega, view_of_cells fun i hi => ?_, by omega, fun z hz' => ?_⟩
    · simp at hi
      rw [hcell i (by omega), List.getElem?_map, List.getElem?_take_of_lt (by omega), List.getD_eq_getElem?_getD, List.getElem?_eq_getElem (by omega)]
      rfl
    · exact Go.bounds_i64 (hwz z (List.mem_of_mem_take hz'))

/-- A slice of bools that came in. -/
theorem bools_in {H : Type} {enc : TypeId × Value → H} {W : World} {v : Value} {d : DataW H} {p : List MemPlace} {a : Option Addr} {len cap : Nat} (hv : v = .slice a len cap) (h : DataW.Trod enc Try.prog W 0 (fun _ => true) true 23 v d p) :
    ∃ bs : List Bool, bs.length = len ∧ RowView W a (bs.map Value.bool) ∧ len ≤ 9223372036854775807 := by
  subst hv
  obtain ⟨fuel, hf⟩ := h
  rcases Go.Deep.open_bools Try.underlying23 Try.underlying4 (by kernel_rfl) hf with ⟨hcs, _⟩ | ⟨x, l, c, B, hcs, _, hl, hm, _, hcell⟩
  · simp [Value.cells] at hcs
    obtain ⟨rfl, rfl, rfl⟩ := hcs
    exact ⟨[], rfl, view_empty _, by omega⟩
  · simp [Value.cells] at hcs
    obtain ⟨rfl, rfl, rfl⟩ := hcs
    have hm' : cap ≤ 9223372036854775807 := hm
    refine ⟨(List.range len).map B, by simp, view_of_cells fun i hi => ?_, by omega⟩
    simp at hi
    rw [hcell i (by omega)]
    simp [hi]

set_option maxRecDepth 100000 in
theorem lifted (os : Os) (started : os.Started) (H : Type) (enc : TypeId × Value → H) :
    ReturnsInHanded {} Try.checked os 4 .any (Rows.fnNewViewProblemRefusesOverwrittenReadSpec.pre6 enc Try.prog Try.f4 Rows.fnNewViewProblemRefusesOverwrittenReadRow.domain false) (Rows.fnNewViewProblemRefusesOverwrittenReadSpec.post enc Try.prog Try.f4 false true false false) := by
  refine returnsInHanded_of_change (C := Try.checked) own started (by kernel_rfl) Try.func4
    (ChangeSpec.witness6 (enc := enc) (C := Try.checked) false ⟨#[], #[.int .i64 0, .slice none 0 0, .slice none 0 0, .slice none 0 0], []⟩ 8 (by kernel_rfl) (by kernel_rfl) (by kernel_rfl) (by kernel_rfl)) ?_
  intro W base args ds gs before hval0 hW hcnd _
  have hval : ∀ (j : Nat) t v, Try.f4.params[j]? = some t → args[j]? = some v → Value.okWide Try.prog W .any base t v := hval0
  have hW' := hW
  obtain ⟨p, q, hA0, hV, rfl, hfz, hnd⟩ := hW
  have hA : DataW.TrodAll enc Try.prog W 0 (fun _ => true) true Try.f4.params.toList args.toList ds p := hA0
  rw [Try.params4] at hA hval
  obtain ⟨v0, vs0, d0, ds0, p0, q0, hargs, rfl, rfl, h0, r0⟩ := trodAll_cons hA
  obtain ⟨v1, vs1, d1, ds1, p1, q1, rfl, rfl, rfl, h1, r1⟩ := trodAll_cons r0
  obtain ⟨v2, vs2, d2, ds2, p2, q2, rfl, rfl, rfl, h2, r2⟩ := trodAll_cons r1
  obtain ⟨v3, vs3, d3, ds3, p3, q3, rfl, rfl, rfl, h3, r3⟩ := trodAll_cons r2
  obtain ⟨rfl, rfl, rfl⟩ := trodAll_nil r3
  obtain rfl : args = #[v0, v1, v2, v3] := by cases args; simp_all
  obtain ⟨rfl, rfl⟩ := trodVars_none hV
  obtain ⟨a1, len1, cap1, rfl⟩ := okWide_slice Try.underlying22 (hval 1 22 v1 rfl rfl)
  obtain ⟨a2, len2, cap2, rfl⟩ := okWide_slice Try.underlying22 (hval 2 22 v2 rfl rfl)
  obtain ⟨a3, len3, cap3, rfl⟩ := okWide_slice Try.underlying23 (hval 3 23 v3 rfl rfl)
  have lt1 : ∀ x ∈ p1, x.block < W.heap.size := by obtain ⟨m, hm⟩ := h1; exact DataW.trod_lt m _ _ _ hm
  have lt2 : ∀ x ∈ p2, x.block < W.heap.size := by obtain ⟨m, hm⟩ := h2; exact DataW.trod_lt m _ _ _ hm
  have lt3 : ∀ x ∈ p3, x.block < W.heap.size := by obtain ⟨m, hm⟩ := h3; exact DataW.trod_lt m _ _ _ hm
  obtain ⟨zs, rfl, z1, z2, z3⟩ := ints_in rfl h1
  obtain ⟨is, rfl, i1, i2, i3⟩ := ints_in rfl h2
  obtain ⟨bs, rfl, b1, b2⟩ := bools_in rfl h3
  obtain ⟨a0, rfl, rfl, rfl, w0⟩ := open_int Try.underlying3 (hval 0 3 v0 rfl rfl) h0
  clear hA0 hval0
  refine (fn_any a0 a1 a2 a3 cap1 cap2 cap3 zs is bs W z1 i1 b1 z2 i2 b2 z3 i3).mono fun e W' ⟨he, bel⟩ => ?_
  subst he
  exact ⟨_, rfl, _, _, _, [], _, [], hW', trodAll_mk1 (shut_bool Try.underlying4 _), (trodAll_cons_mk (shut_int Try.underlying3 w0) (trodAll_cons_mk (Below.trod laidOut (by kernel_rfl) (of_decide_eq_true (by kernel_rfl)) h1 bel lt1) (trodAll_cons_mk (Below.trod laidOut (by kernel_rfl) (of_decide_eq_true (by kernel_rfl)) h2 bel lt2) (trodAll_cons_mk (Below.trod laidOut (by kernel_rfl) (of_decide_eq_true (by kernel_rfl)) h3 bel lt3) trodAll_mk0)))), rfl, bel.frame _, fun h => by cases h⟩

theorem over : Rows.fnNewViewProblemRefusesOverwrittenReadRow.holds Try.pinned (OpenSpec.ofChange Rows.fnNewViewProblemRefusesOverwrittenReadSpec) :=
  OpenClaim.holds_of_wide 4 Try.f4 rfl rfl rfl rfl rfl rfl rfl ⟨rfl, rfl, rfl, rfl, rfl⟩ rfl rfl rfl rfl rfl (by kernel_rfl) Try.func4 (by kernel_rfl)
    (of_decide_eq_true (by kernel_rfl)) (by unfold Func.isWrapper; first | (rw [if_pos (by decide +kernel)]; kernel_rfl) | (rw [if_neg (by decide +kernel)]; exact ⟨rfl, rfl⟩))
    (fun os started H enc _ => lifted os started H enc)

/-- THE STATEMENT. -/
theorem proved : Rows.FnNewViewProblemRefusesOverwrittenReadSaid := over
end Go.Proofs.Qxb6001364a
