import Derived.Test.Qxb6003655aBase
import Derived.Maps.OwnSet
import Derived.Maps.OwnOps
namespace Go.Proofs.Qxb6003655a
open Go.ChangeShapes Go.WideShapes Go.ChangeAt Go.RowKit Go.Maps

theorem law : Keyed Try.prog 9 := string_keyed Try.underlying9
theorem zero21 (w : World) : (zeroValue 21).run Try.prog w = .ok (.int .i32 0) w := by kernel_rfl

/-- Block b is a map of at most n entries that holds what f says, string by string. -/
def MapF (w : World) (b n : Nat) (f : ByteArray → Option Int) : Prop :=
  ∃ D : DataW Unit, w.ownsMap Try.prog 9 (plainElem Try.prog 21) b n D ∧ (∀ s, Maps.has D (.string s.data.toList) = (f s).isSome) ∧
    ∀ s c, f s = some c → D.atKey (.string s.data.toList) (.lit (.int .i32 0)) = .lit (.int .i32 c)

theorem data_inj {s t : ByteArray} (h : s.data.toList = t.data.toList) : s = t := by
  cases s; cases t
  simp at h
  simp [h]

/-- f, but c at s. -/
def upd (f : ByteArray → Option Int) (s : ByteArray) (c : Int) : ByteArray → Option Int := fun t => if t.data.toList = s.data.toList then some c else f t
theorem upd_same (f : ByteArray → Option Int) (s : ByteArray) (c : Int) : upd f s c s = some c := by simp [upd]
theorem upd_other (f : ByteArray → Option Int) {s t : ByteArray} (c : Int) (h : t ≠ s) : upd f s c t = f t := by
  have : ¬ t.data.toList = s.data.toList := fun e => h (data_inj e)
  simp only [upd, if_neg this]

theorem MapF.lt {w : World} {b n : Nat} {f} (h : MapF w b n f) : b < w.heap.size := by
  obtain ⟨D, hD, _⟩ := h
  exact hD.lt
theorem MapF.isMap {w : World} {b n : Nat} {f} (h : MapF w b n f) : ∃ es c, w.heap[b]? = some (.map es c) := by
  obtain ⟨D, ⟨es, c, hb, _⟩, _⟩ := h
  exact ⟨es, c, hb⟩
theorem MapF.same {w w' : World} {b n : Nat} {f} (h : MapF w b n f) (hb : w'.heap[b]? = w.heap[b]?) : MapF w' b n f := by
  obtain ⟨D, ⟨es, c, hD, r⟩, h1⟩ := h
  exact ⟨D, ⟨es, c, hb.trans hD, r⟩, h1⟩
theorem MapF.grown {w w' : World} {b n : Nat} {f} {row : Option Nat} (h : MapF w b n f) (hg : w.grownBy w' row) (hne : some b ≠ row) : MapF w' b n f := h.same (hg.block b h.lt hne)
theorem MapF.mono {w : World} {b n n' : Nat} {f} (h : MapF w b n f) (hn : n ≤ n') : MapF w b n' f := by
  obtain ⟨D, hD, h1⟩ := h
  exact ⟨D, hD.mono hn, h1⟩
theorem MapF.made {w : World} {b : Nat} (h : w.heap[b]? = some (.map #[] 0)) : MapF w b 0 (fun _ => none) := by
  refine ⟨.map [], ⟨#[], 0, h, ⟨by simp, MapKept.stamped_empty 0, by simp⟩, Nat.le_refl _, rfl⟩, fun s => by simp [Maps.has], fun s c h => by cases h⟩

section
variable (w : World) {ops : Array Oper} {rest : List Oper} {o : Oper} {a : Act} {Q : Exit → Act → World → Prop}

/-- 'v, ok := m[k]'. -/
theorem wpList_lookF (hg : o.guard = none) (m x : Operand) (hop : o.op = Op.lookup 30 m x true) (b n : Nat) (f : ByteArray → Option Int) (hm : a.eval m = .map (some b)) (hM : MapF w b n f) (s : ByteArray) (hx : a.eval x = .string s) (hs : s.size ≤ maxLen)
    (hK : wpList Try.prog ops Q rest (a.put o.dst (.tuple #[.int .i32 ((f s).getD 0), .bool (f s).isSome])) w) : wpList Try.prog ops Q (o :: rest) a w := by
  obtain ⟨D, hD, h1, h2⟩ := hM
  refine wpList_lookup_own_ok_int w hg m x 30 hop 9 21 .i32 law Try.underlying30 Try.underlying21 (zero21 w) b n D hm hD (.string s) (.string s.data.toList) hx (WideMaps.keyOf_string_mk Try.underlying9 hs) ?_
  intro c hat _
  rw [h1 s]
  cases hf : f s with
  | none =>
    rw [hf] at hK
    have hn : Maps.has D (.string s.data.toList) = false := by rw [h1 s, hf]; rfl
    rw [Maps.atKey_of_not_has hn] at hat
    simp at hat
    subst hat
    exact hK
  | some c' =>
    rw [hf] at hK
    have := h2 s c' hf
    rw [this] at hat
    simp at hat
    subst hat
    exact hK

/-- 'm[k] = v'. -/
theorem wpList_putF (hg : o.guard = none) (m x v : Operand) (hop : o.op = Op.mapUpdate 30 m x v) (b n : Nat) (f : ByteArray → Option Int) (hm : a.eval m = .map (some b)) (hM : MapF w b n f) (hn : n < maxLen) (s : ByteArray) (hx : a.eval x = .string s) (hs : s.size ≤ maxLen)
    (c : Int) (hv : a.eval v = .int .i32 c) (hc : (Lit.int .i32 c).wf = true)
    (hK : ∀ w', MapF w' b (n + 1) (upd f s c) → w.grownBy w' (some b) → wpList Try.prog ops Q rest (a.put o.dst undef) w') : wpList Try.prog ops Q (o :: rest) a w := by
  obtain ⟨D, hD, h1, h2⟩ := hM
  refine wpList_mapUpdate_own w hg m x v 30 hop 9 21 law Try.underlying30 (plainElem Try.prog 21) b n D hm hD hn (.string s) (.int .i32 c) (.string s.data.toList) hx hv (WideMaps.keyOf_string_mk Try.underlying9 hs) (.lit (.int .i32 c)) [] (plainElem_int Try.underlying21 hc) ?_
  intro w' hown hgrow
  refine hK w' ⟨_, hown, ?_, ?_⟩ hgrow
  · intro t
    by_cases ht : t = s
    · subst ht
      rw [Maps.has_put_same hD.isMap (by simp [WideAt.IsKeyLit]), upd_same]; rfl
    · rw [Maps.has_put_other (fun e => ht (data_inj (by simpa using e))), upd_other _ _ ht]
      exact h1 t
  · intro t c' hc'
    by_cases ht : t = s
    · subst ht
      rw [Maps.atKey_put_same hD.isMap (by simp [WideAt.IsKeyLit])]
      rw [upd_same] at hc'
      cases hc'
      rfl
    · rw [Maps.atKey_put_other (fun e => ht (data_inj (by simpa using e)))]
      rw [upd_other _ _ ht] at hc'
      exact h2 t c' hc'
end
end Go.Proofs.Qxb6003655a
