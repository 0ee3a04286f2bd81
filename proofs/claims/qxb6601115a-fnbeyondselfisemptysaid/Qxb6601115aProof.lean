/- THE STATEMENT, out of the law's walk (Qxb6601115aLaw): the argument is opened, and read again behind the call by 'Below.trod'. -/
import Derived.Test.Qxb6601115aLaw
import Derived.Deep.Strs
namespace Go.Proofs.Qxb6601115a
open Go.ChangeShapes Go.WideShapes Go.ChangeAt Go.RowKit

theorem own : ownKnob Try.prog.godebug = none := by kernel_rfl
theorem laidOut : laidOutB Try.prog = true := by kernel_rfl
theorem cells47 : Try.prog.cellsOf 47 = 3 := by kernel_rfl
theorem cells30 : Try.prog.cellsOf 30 = 1 := by kernel_rfl
theorem cells31 : Try.prog.cellsOf 31 = 1 := by kernel_rfl

theorem fits_mk {d s q : Int} (h0 : 0 ≤ d ∧ d ≤ 4294967295) (h1 : 0 ≤ s ∧ s ≤ 4294967295) (h2 : 0 ≤ q ∧ q ≤ 18446744073709551615) : Gt.fits ⟨d, s, q⟩ :=
  ⟨⟨h0.1, Int.lt_of_le_of_lt h0.2 (by decide)⟩, ⟨h1.1, Int.lt_of_le_of_lt h1.2 (by decide)⟩, ⟨h2.1, Int.lt_of_le_of_lt h2.2 (by decide)⟩⟩

/-- One element of the slice that came in. -/
theorem one_in {H : Type} {enc : TypeId × Value → H} {W : World} {sp : Nat → Bool} {held : Bool} {n i : Nat} {a : Addr} {y : DataW H × List MemPlace}
    (h : (W.cells? 0 (a.add (i * Try.prog.cellsOf 47)) (Try.prog.cellsOf 47)).bind (DataW.trod enc Try.prog W 0 sp held n 47) = some y) :
    ∃ g : Gt, g.fits ∧ W.cell? (a.add (i * 3)) = some (.int .u32 g.d) ∧ W.cell? (a.add (i * 3 + 1)) = some (.int .u32 g.s) ∧ W.cell? (a.add (i * 3 + 2)) = some (.int .u64 g.q) := by
  rw [cells47, Option.bind_eq_some_iff] at h
  obtain ⟨cs, h1, h2⟩ := h
  obtain ⟨_, hlen, hcell⟩ := World.cells?_some h1
  obtain ⟨y0, y1, y2, m, _, _, t0, t1, t2⟩ := Deep.trod_struct3 Try.underlying47 h2
  match cs, hlen with
  | [c0, c1, c2], _ =>
    simp [cells30, cells31] at t0 t1 t2
    obtain ⟨d, e0, _, w0⟩ := DataW.trod_int Try.underlying30 t0
    obtain ⟨s, e1, _, w1⟩ := DataW.trod_int Try.underlying30 t1
    obtain ⟨q, e2, _, w2⟩ := DataW.trod_int Try.underlying31 t2
    simp at e0 e1 e2
    subst e0 e1 e2
    have b0 := Go.bounds_u32 w0
    have b1 := Go.bounds_u32 w1
    have b2 := Go.bounds_u64 w2
    refine ⟨⟨d, s, q⟩, fits_mk (by omega) (by omega) (by omega), ?_, ?_, ?_⟩
    · have := hcell 0 (by omega)
      rw [Deep.add_add] at this
      simpa using this
    · have := hcell 1 (by omega)
      rw [Deep.add_add] at this
      simpa using this
    · have := hcell 2 (by omega)
      rw [Deep.add_add] at this
      simpa using this

theorem list_of {P : Nat → Gt → Prop} : ∀ n : Nat, (∀ i, i < n → ∃ g, P i g) → ∃ gs : List Gt, gs.length = n ∧ ∀ i g, gs[i]? = some g → P i g
  | 0, _ => ⟨[], rfl, fun i g h => by simp at h⟩
  | n + 1, h => by
    obtain ⟨gs, hl, hg⟩ := list_of n (fun i hi => h i (by omega))
    obtain ⟨x, hx⟩ := h n (by omega)
    refine ⟨gs ++ [x], by simp [hl], fun i g hi => ?_⟩
    by_cases hin : i < gs.length
    · rw [List.getElem?_append_left hin] at hi
      exact hg i g hi
    · have := (List.getElem?_eq_some_iff.1 hi).1
      simp at this
      have : i = gs.length := by omega
      subst this
      simp at hi
      subst hi
      rw [hl]
      exact hx

/-- The slice that came in. -/
theorem slice_in {H : Type} {enc : TypeId × Value → H} {W : World} {v : Value} {d : DataW H} {p : List MemPlace} {a : Option Addr} {len cap : Nat} (hv : v = .slice a len cap) (h : DataW.Trod enc Try.prog W 0 (fun _ => true) true 22 v d p) :
    ∃ gs : List Gt, gs.length = len ∧ GView W a gs ∧ len ≤ 9223372036854775807 ∧ ∀ g ∈ gs, g.fits := by
  subst hv
  obtain ⟨fuel, hf⟩ := h
  rcases DataW.trod_slice Try.underlying22 hf with ⟨hcs, _⟩ | ⟨x, l, c, elems, rest, n, _, hcs, _, _, hl, hm, hlen, hel, _, _⟩
  · simp [Value.cells] at hcs
    obtain ⟨rfl, rfl, rfl⟩ := hcs
    exact ⟨[], rfl, ⟨fun k hk => by simp at hk, fun _ => rfl⟩, by omega, by simp⟩
  · simp [Value.cells] at hcs
    obtain ⟨rfl, rfl, rfl⟩ := hcs
    have hm' : cap ≤ 9223372036854775807 := hm
    obtain ⟨gs, hgl, hg⟩ := list_of (P := fun i g => g.fits ∧ W.cell? (x.add (i * 3)) = some (.int .u32 g.d) ∧ W.cell? (x.add (i * 3 + 1)) = some (.int .u32 g.s) ∧ W.cell? (x.add (i * 3 + 2)) = some (.int .u64 g.q)) len (fun i hi => by
      have := hel i hi
      rw [List.getElem?_eq_getElem (by omega)] at this
      exact one_in this)
    refine ⟨gs, hgl, ⟨fun k hk => ?_, fun h => by cases h⟩, by omega, fun g hgm => ?_⟩
    · obtain ⟨b, off, spot⟩ := x
      obtain ⟨_, h0, _, _⟩ := hg 0 _ (List.getElem?_eq_getElem (by omega))
      have hspot : spot = none := by
        have := World.cell?_spot h0
        simpa [Addr.add] using this
      subst hspot
      refine ⟨b, off, rfl, ?_, fun i g hi => ?_⟩
      · have := World.block_lt_of_cell? W _ h0
        rw [add_plain] at this
        exact this
      · obtain ⟨_, c0, c1, c2⟩ := hg i g hi
        rw [add_plain] at c0 c1 c2
        exact ⟨c0, by rw [Nat.add_assoc]; exact c1, by rw [Nat.add_assoc]; exact c2⟩
    · obtain ⟨i, hi⟩ := List.getElem?_of_mem hgm
      exact (hg i g hi).1

set_option maxRecDepth 100000 in
theorem lifted (os : Os) (started : os.Started) (H : Type) (enc : TypeId × Value → H) :
    ReturnsInHanded {} Try.checked os 7 .any (Rows.fnBeyondSelfIsEmptySpec.pre6 enc Try.prog Try.f7 Rows.fnBeyondSelfIsEmptyRow.domain false) (Rows.fnBeyondSelfIsEmptySpec.post enc Try.prog Try.f7 false true false false) := by
  refine returnsInHanded_of_change (C := Try.checked) own started (by kernel_rfl) Try.func7
    (ChangeSpec.witness6 (enc := enc) (C := Try.checked) false ⟨#[], #[.slice none 0 0], []⟩ 8 (by kernel_rfl) (by kernel_rfl) (by kernel_rfl) (by kernel_rfl)) ?_
  intro W base args ds gs before hval0 hW hcnd _
  have hval : ∀ (j : Nat) t v, Try.f7.params[j]? = some t → args[j]? = some v → Value.okWide Try.prog W .any base t v := hval0
  have hW' := hW
  obtain ⟨p, q, hA0, hV, rfl, hfz, hnd⟩ := hW
  have hA : DataW.TrodAll enc Try.prog W 0 (fun _ => true) true Try.f7.params.toList args.toList ds p := hA0
  rw [Try.params7] at hA hval
  obtain ⟨v0, vs0, d0, ds0, p0, q0, hargs, rfl, rfl, h0, r0⟩ := trodAll_cons hA
  obtain ⟨rfl, rfl, rfl⟩ := trodAll_nil r0
  obtain rfl : args = #[v0] := by cases args; simp_all
  obtain ⟨rfl, rfl⟩ := trodVars_none hV
  obtain ⟨a0, len0, cap0, rfl⟩ := okWide_slice Try.underlying22 (hval 0 22 v0 rfl rfl)
  have lt0 : ∀ x ∈ p0, x.block < W.heap.size := by obtain ⟨m, hm⟩ := h0; exact DataW.trod_lt m _ _ _ hm
  obtain ⟨ss, rfl, s1, s2, s3⟩ := slice_in rfl h0
  clear hA0 hval0
  refine (fn_any a0 cap0 ss W s1 s2 s3).mono fun e W' ⟨he, bel⟩ => ?_
  subst he
  exact ⟨_, rfl, _, _, _, [], _, [], hW', trodAll_mk1 (shut_bool Try.underlying4 _), (trodAll_cons_mk (Below.trod laidOut (by kernel_rfl) (of_decide_eq_true (by kernel_rfl)) h0 bel lt0) trodAll_mk0), rfl, bel.frame _, fun h => by cases h⟩

theorem over : Rows.fnBeyondSelfIsEmptyRow.holds Try.pinned (OpenSpec.ofChange Rows.fnBeyondSelfIsEmptySpec) :=
  OpenClaim.holds_of_wide 7 Try.f7 rfl rfl rfl rfl rfl rfl rfl ⟨rfl, rfl, rfl, rfl, rfl⟩ rfl rfl rfl rfl rfl (by kernel_rfl) Try.func7 (by kernel_rfl)
    (of_decide_eq_true (by kernel_rfl)) (by unfold Func.isWrapper; first | (rw [if_pos (by decide +kernel)]; kernel_rfl) | (rw [if_neg (by decide +kernel)]; exact ⟨rfl, rfl⟩))
    (fun os started H enc _ => lifted os started H enc)

/-- THE STATEMENT. -/
theorem proved : Rows.FnBeyondSelfIsEmptySaid := over
end Go.Proofs.Qxb6601115a
