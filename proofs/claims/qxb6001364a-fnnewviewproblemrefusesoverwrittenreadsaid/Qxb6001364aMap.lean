import Derived.Test.Qxb6001364aBase
import Derived.Maps.OwnSet
import Derived.Maps.OwnOps
namespace Go.Proofs.Qxb6001364a
open Go.ChangeShapes Go.WideShapes Go.ChangeAt Go.RowKit Go.Maps

/-- How an element reads, for the proof alone: an int, a bool, a slice that lies at the head of its block. -/
def R0 : Value → Option (DataW Unit × List MemPlace)
  | .int .i64 i => some (.lit (.int .i64 i), [])
  | .bool b => some (.lit (.bool b), [])
  | .slice none 0 0 => some (.nil, [])
  | .slice (some ⟨b, 0, none⟩) len cap => some (.agg [.lit (.int .i64 b), .lit (.int .i64 len), .lit (.int .i64 cap)], [])
  | _ => none

theorem R0_inj {u v : Value} {d : DataW Unit} {p q : List MemPlace} (hu : R0 u = some (d, p)) (hv : R0 v = some (d, q)) : u = v := by
  unfold R0 at hu hv
  split at hu <;> split at hv <;> (try cases hu; done) <;> (try cases hv; done)
  all_goals
    have h1 := congrArg Prod.fst (Option.some.inj hu)
    have h2 := congrArg Prod.fst (Option.some.inj hv)
    have h := h1.trans h2.symm
    simp at h
  all_goals first | (subst h; rfl) | rfl | (obtain ⟨h3, h4, h5⟩ := h; rw [Int.ofNat.inj h3, Int.ofNat.inj h4, Int.ofNat.inj h5])

theorem R0_places {v : Value} {z : DataW Unit × List MemPlace} (h : R0 v = some z) : z.2 = [] := by
  unfold R0 at h
  split at h <;> cases h <;> rfl

section
variable {K : Type} (kv : K → Value) (t k e : TypeId) (z0 : Value)

/-- Block b is a map of at most n entries that holds what f says, key by key. -/
def MapG (w : World) (b n : Nat) (f : K → Option Value) : Prop :=
  ∃ D : DataW Unit, w.ownsMap Try.prog k R0 b n D ∧ ∀ x l, keyOf Try.prog k (kv x) = some l →
    (f x = none → Maps.has D l = false) ∧ ∀ v, f x = some v → Maps.has D l = true ∧ ∃ d, R0 v = some (d, []) ∧ ∀ z, D.atKey l z = d

/-- f, but v at x. -/
def updG [DecidableEq K] (f : K → Option Value) (x : K) (v : Value) : K → Option Value := fun y => if y = x then some v else f y

variable {kv k} {w : World} {b n : Nat} {f : K → Option Value}

theorem MapG.lt (h : MapG kv k w b n f) : b < w.heap.size := by
  obtain ⟨D, hD, _⟩ := h
  exact hD.lt
theorem MapG.isMap (h : MapG kv k w b n f) : ∃ es c, w.heap[b]? = some (.map es c) := by
  obtain ⟨D, ⟨es, c, hb, _⟩, _⟩ := h
  exact ⟨es, c, hb⟩
theorem MapG.same {w' : World} (h : MapG kv k w b n f) (hb : w'.heap[b]? = w.heap[b]?) : MapG kv k w' b n f := by
  obtain ⟨D, ⟨es, c, hD, r⟩, h1⟩ := h
  exact ⟨D, ⟨es, c, hb.trans hD, r⟩, h1⟩
theorem MapG.mono {n' : Nat} (h : MapG kv k w b n f) (hn : n ≤ n') : MapG kv k w b n' f := by
  obtain ⟨D, hD, h1⟩ := h
  exact ⟨D, hD.mono hn, h1⟩
theorem MapG.made (h : w.heap[b]? = some (.map #[] 0)) : MapG kv k w b 0 (fun _ => none) := by
  refine ⟨.map [], ⟨#[], 0, h, ⟨by simp, MapKept.stamped_empty 0, by simp⟩, Nat.le_refl _, rfl⟩, fun x l _ => ⟨fun _ => by simp [Maps.has], fun v h => by cases h⟩⟩

theorem MapG.look (h : MapG kv k w b n f) (law : Keyed Try.prog k) (ht : Try.prog.underlying t = some (.map k e)) (hz : ∀ w, (zeroValue e).run Try.prog w = .ok z0 w) {zd : DataW Unit} (hzd : R0 z0 = some (zd, [])) {x : K} {l : Lit} (hk : keyOf Try.prog k (kv x) = some l) :
    (Instr.lookup t (.map (some b)) (kv x) true).run Try.prog w = .ok (.tuple #[(f x).getD z0, .bool (f x).isSome]) w ∧ (Instr.lookup t (.map (some b)) (kv x) false).run Try.prog w = .ok ((f x).getD z0) w := by
  obtain ⟨D, hD, h1⟩ := h
  obtain ⟨hn, hs⟩ := h1 x l hk
  obtain ⟨v1, p1, r1, q1⟩ := hD.look_ok law ht (hz w) hzd hk
  obtain ⟨v2, p2, r2, q2⟩ := hD.lookup law ht (hz w) hzd hk
  cases hf : f x with
  | none =>
    have hh := hn hf
    rw [Maps.atKey_of_not_has hh] at q1 q2
    rw [R0_inj q1 hzd, hh] at r1
    rw [R0_inj q2 hzd] at r2
    exact ⟨r1, r2⟩
  | some v =>
    obtain ⟨hh, d, hd, hat⟩ := hs v hf
    rw [hat] at q1 q2
    rw [R0_inj q1 hd, hh] at r1
    rw [R0_inj q2 hd] at r2
    exact ⟨r1, r2⟩

theorem MapG.put [DecidableEq K] (h : MapG kv k w b n f) (law : Keyed Try.prog k) (ht : Try.prog.underlying t = some (.map k e)) (hn : n < maxLen) (hinj : ∀ x y, kv x = kv y → x = y) {x : K} {l : Lit} (hk : keyOf Try.prog k (kv x) = some l) {v : Value} {d : DataW Unit} (hv : R0 v = some (d, [])) :
    ∃ w', (Instr.mapUpdate t (.map (some b)) (kv x) v).run Try.prog w = .ok () w' ∧ MapG kv k w' b (n + 1) (updG f x v) ∧ w.grownBy w' (some b) := by
  obtain ⟨D, hD, h1⟩ := h
  obtain ⟨w', hr, hown, hg⟩ := hD.update law ht hn hk hv
  refine ⟨w', hr, ⟨_, hown, fun y l' hy => ?_⟩, hg⟩
  by_cases hyx : y = x
  · subst hyx
    rw [hk] at hy
    cases hy
    refine ⟨fun h => by simp [updG] at h, fun v' hv' => ?_⟩
    simp [updG] at hv'
    subst hv'
    exact ⟨Maps.has_put_same hD.isMap (law.key hk) _, d, hv, fun z => Maps.atKey_put_same hD.isMap (law.key hk) _ _⟩
  · have hne : l' ≠ l := fun e => hyx (hinj _ _ (law.inj (e ▸ hy) hk))
    obtain ⟨h2, h3⟩ := h1 y l' hy
    have hu : updG f x v y = f y := by simp [updG, hyx]
    rw [hu]
    refine ⟨fun h => by rw [Maps.has_put_other hne]; exact h2 h, fun v' hv' => ?_⟩
    obtain ⟨h4, d', h5, h6⟩ := h3 v' hv'
    exact ⟨by rw [Maps.has_put_other hne]; exact h4, d', h5, fun z => by rw [Maps.atKey_put_other hne]; exact h6 z⟩
end

/-! ### At the operations -/
section
variable (w : World) {ops : Array Oper} {rest : List Oper} {o : Oper} {a : Act} {Q : Exit → Act → World → Prop}
theorem wpList_look_run (hg : o.guard = none) (t : TypeId) (m x : Operand) (c : Bool) (hop : o.op = Op.lookup t m x c) (mv key v : Value) (hm : a.eval m = mv) (hx : a.eval x = key) (hr : (Instr.lookup t mv key c).run Try.prog w = .ok v w)
    (hK : wpList Try.prog ops Q rest (a.put o.dst v) w) : wpList Try.prog ops Q (o :: rest) a w := by
  refine wpList_plain hg fun K' hK' => ?_
  unfold Oper.wp
  simp [execOp, hop, hm, hx, hr, Result.andThen]
  exact hK' _ _ hK
theorem wpList_put_run (hg : o.guard = none) (t : TypeId) (m x v : Operand) (hop : o.op = Op.mapUpdate t m x v) (mv key val : Value) (w' : World) (hm : a.eval m = mv) (hx : a.eval x = key) (hv : a.eval v = val) (hr : (Instr.mapUpdate t mv key val).run Try.prog w = .ok () w')
    (hK : wpList Try.prog ops Q rest (a.put o.dst undef) w') : wpList Try.prog ops Q (o :: rest) a w := by
  refine wpList_plain hg fun K' hK' => ?_
  unfold Oper.wp
  simp [execOp, hop, hm, hx, hv, hr, Result.andThen]
  exact hK' _ _ hK
end

/-! ### The four kinds of map -/
theorem law3 : Keyed Try.prog 3 := int_keyed Try.underlying3
theorem law9 : Keyed Try.prog 9 := string_keyed Try.underlying9
theorem laidOut : laidOutB Try.prog = true := by kernel_rfl
theorem row60 : (60 : TypeId) < Try.prog.types.size := of_decide_eq_true (by kernel_rfl)
theorem wide60 : (match Try.prog.underlying 60 with | some (.array _ _) | some (.struct _) => true | _ => false) = true := by rw [Try.underlying60]
theorem law60 : Keyed Try.prog 60 := Keyed.of_law (deep_law_laid laidOut (m := 2) (by omega) row60 (by kernel_rfl) wide60)
theorem zero3 (w : World) : (zeroValue 3).run Try.prog w = .ok (.int .i64 0) w := by kernel_rfl
theorem zero4 (w : World) : (zeroValue 4).run Try.prog w = .ok (.bool false) w := by kernel_rfl
theorem zero80 (w : World) : (zeroValue 80).run Try.prog w = .ok (.slice none 0 0) w := by kernel_rfl

/-- An int as a key. -/
def kI (x : Int) : Value := .int .i64 x
def Fits (x : Int) : Prop := -9223372036854775808 ≤ x ∧ x ≤ 9223372036854775807
theorem kI_key {x : Int} (h : Fits x) : keyOf Try.prog 3 (kI x) = some (.int .i64 x) := keyOf_int_mk Try.underlying3 (WalkArith.wf_i64 h)
theorem kI_inj (x y : Int) (h : kI x = kI y) : x = y := by simpa [kI] using h
/-- Two ints as a key. -/
def kP (x : Int × Int) : Value := .agg #[.int .i64 x.1, .int .i64 x.2]
theorem kP_inj (x y : Int × Int) (h : kP x = kP y) : x = y := by
  simp [kP] at h
  exact Prod.ext h.1 h.2
theorem size_succ : ∃ m, Try.prog.types.size = m + 1 := ⟨Try.prog.types.size - 1, (Nat.succ_pred_eq_of_pos (Nat.lt_of_le_of_lt (Nat.zero_le _) row60)).symm⟩
theorem kP_key {x : Int × Int} (h1 : Fits x.1) (h2 : Fits x.2) : ∃ l, keyOf Try.prog 60 (kP x) = some l := by
  have w1 : (Lit.int .i64 x.1).wf = true := WalkArith.wf_i64 h1
  have w2 : (Lit.int .i64 x.2).wf = true := WalkArith.wf_i64 h2
  have hkt : Try.prog.keyType 60 = true := by kernel_rfl
  have c60 : Try.prog.cellsOf 60 = 2 := by kernel_rfl
  have c3 : Try.prog.cellsOf 3 = 1 := by kernel_rfl
  obtain ⟨m, hm⟩ := size_succ
  refine ⟨.string (keyBytes [.int .i64 x.1, .int .i64 x.2]), ?_⟩
  simp [keyOf, Try.underlying60, hkt, Value.formed, kP, c60, hm, Program.keyLits, Try.underlying3, c3, Value.cells, w1, w2, List.range_succ]
/-- A string as a key. -/
def kS (x : ByteArray) : Value := .string x
theorem kS_key {x : ByteArray} (h : x.size ≤ maxLen) : keyOf Try.prog 9 (kS x) = some (.string x.data.toList) := WideMaps.keyOf_string_mk Try.underlying9 h
theorem kS_inj (x y : ByteArray) (h : kS x = kS y) : x = y := by simpa [kS] using h
end Go.Proofs.Qxb6001364a
