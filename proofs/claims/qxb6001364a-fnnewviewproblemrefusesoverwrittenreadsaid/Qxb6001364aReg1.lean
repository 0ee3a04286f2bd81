import Derived.Test.Qxb6001364aL2
namespace Go.Proofs.Qxb6001364a
open Go.ChangeShapes Go.WideShapes Go.ChangeAt Go.RowKit Go.Maps

section
variable {ev : Operand → Value} {o : Oper} {w : World}
theorem ex_field79 (x : Operand) (k : Nat) (hk : k < 5) (ho : o.op = .fieldAddr 79 x k) {b : Nat} (h : ev x = .pointer (some ⟨b, 0, none⟩)) : (execOp ev o).run Try.prog w = .ok (.value (.pointer (some ⟨b, k, none⟩))) w := by
  obtain rfl | rfl | rfl | rfl | rfl : k = 0 ∨ k = 1 ∨ k = 2 ∨ k = 3 ∨ k = 4 := by omega
  all_goals simp [execOp, ho, h, go_sem]
theorem ex_make (t : TypeId) (x y : Operand) (ho : o.op = .makeSlice t x y) {u1 u2 v : Value} {w' : World} (h : ev x = u1) (h2 : ev y = u2) (hr : (Instr.makeSlice t u1 u2).run Try.prog w = .ok v w') : (execOp ev o).run Try.prog w = .ok (.value v) w' := by
  simp [execOp, ho, h, h2, hr, Result.andThen]
theorem ex_build58 (x0 x1 x2 x3 x6 x7 : Operand) (ho : o.op = .build 58 #[(0, x0), (1, x1), (2, x2), (3, x3), (6, x6), (7, x7)]) {a0 a1 a2 a3 a6 a7 : Option Addr} {l0 l1 l2 l3 l6 l7 c0 c1 c2 c3 c6 c7 : Nat} (h0 : ev x0 = .slice a0 l0 c0) (h1 : ev x1 = .slice a1 l1 c1) (h2 : ev x2 = .slice a2 l2 c2) (h3 : ev x3 = .slice a3 l3 c3) (h6 : ev x6 = .slice a6 l6 c6) (h7 : ev x7 = .slice a7 l7 c7) :
    (execOp ev o).run Try.prog w = .ok (.value (.agg #[.slice a0 l0 c0, .slice a1 l1 c1, .slice a2 l2 c2, .slice a3 l3 c3, .slice none 0 0, .slice none 0 0, .slice a6 l6 c6, .slice a7 l7 c7])) w := by
  simp [execOp, ho, h0, h1, h2, h3, h6, h7, go_sem]
theorem ex_box58 (x : Operand) (ho : o.op = .box 58 x) {A : Array Value} (h : ev x = .agg A) : (execOp ev o).run Try.prog w = .ok (.value (.pointer (some ⟨w.heap.size, 0, none⟩))) (w.alloc (.cells A 58)) := by
  simp [execOp, ho, h, go_sem]
end

def fldR (i : Nat) : Nat := if i = 2 ∨ i = 3 then 1 else 0
def lenR (n k i : Nat) : Nat := if i = 2 ∨ i = 3 then k else n
def kdR (i : Nat) : Nat := match i with
  | 0 => 2
  | 1 => 5
  | 2 => 3
  | 3 => 0
  | 4 => 2
  | _ => 6
def valR (gb n k : Nat) (va vi : Value) (j : Nat) : Value := match j % 6 with
  | 0 => .pointer (some ⟨gb, 0, none⟩)
  | 1 => .pointer (some ⟨gb, 0, none⟩)
  | 2 => .pointer (some ⟨gb, fldR (j / 6), none⟩)
  | 3 => if fldR (j / 6) = 1 then vi else va
  | _ => .int .i64 (lenR n k (j / 6) : Nat)

structure R1 (w0 : World) (a : Act) (n k : Nat) (V : Nat → Value) (τ : Tags) (L : Nat → Bool) (a' : Act) (w : World) : Prop where
  sz : a'.tmps.size = a.tmps.size
  df : a'.defers = a.defers
  out : ∀ s, s ≠ 4 → (s < 27 ∨ 65 ≤ s) → G a' s = G a s
  pure : ∀ j, j < 36 → j % 6 ≠ 5 → L j = true → G a' (27 + j) = V j
  ht : HT w τ 0 n
  bel : Below w0.heap.size w0 w
  low : ∀ b, b < w0.heap.size → τ b = none
  made : ∀ i, i < 6 → L (6 * i + 5) = true → ∃ b, G a' (32 + 6 * i) = .slice (some ⟨b, 0, none⟩) (lenR n k i) (lenR n k i) ∧ τ b = some (kdR i, lenR n k i) ∧ (kdR i = 3 → ∀ y, y < k → w.cell? ⟨b, y, none⟩ = some (.slice none 0 0))
  bl : L 36 = true → (∀ j, j < 36 → L j = true) ∧ G a' 63 = .agg #[G a' 32, G a' 38, G a' 44, G a' 50, .slice none 0 0, .slice none 0 0, G a' 56, G a' 62]
  bx : L 37 = true → L 36 = true ∧ ∃ pb, G a' 64 = .pointer (some ⟨pb, 0, none⟩) ∧ w0.heap.size ≤ pb ∧ τ pb = none ∧ w.heap[pb]? = some (.cells #[G a' 32, G a' 38, G a' 44, G a' 50, .slice none 0 0, .slice none 0 0, G a' 56, G a' 62] 58 (0, 0))
  as_ : L 38 = true → L 37 = true ∧ G a' 4 = G a' 64

section
variable {w0 w : World} {a a' : Act} {n k : Nat} {V : Nat → Value} {τ : Tags} {L : Nat → Bool}
theorem R1.no36 (h : R1 w0 a n k V τ L a' w) {j : Nat} (hj : j < 36) (hL : L j = false) : L 36 = false ∧ L 37 = false ∧ L 38 = false := by
  have h1 : L 36 = false := by
    cases e : L 36 with
    | false => rfl
    | true =>
      have := (h.bl e).1 j hj
      rw [hL] at this
      cases this
  have h2 : L 37 = false := by
    cases e : L 37 with
    | false => rfl
    | true =>
      have := (h.bx e).1
      rw [h1] at this
      cases this
  refine ⟨h1, h2, ?_⟩
  cases e : L 38 with
  | false => rfl
  | true =>
    have := (h.as_ e).1
    rw [h2] at this
    cases this
theorem R1.putp (h : R1 w0 a n k V τ L a' w) (hsz : 65 ≤ a.tmps.size) (j : Nat) (hj : j < 36) (h5 : j % 6 ≠ 5) (hL : L j = false) : R1 w0 a n k V τ (up L j) (a'.put (some (27 + j)) (V j)) w := by
  obtain ⟨n1, n2, n3⟩ := h.no36 hj hL
  refine ⟨by simp [Act.put, h.sz], by simp [Act.put, h.df], fun s h4 hs => ?_, fun i hi hi5 hl => ?_, h.ht, h.bel, h.low, fun i hi hl => ?_, fun hl => ?_, fun hl => ?_, fun hl => ?_⟩
  · rw [G_put_ne _ (by omega)]
    exact h.out s h4 hs
  · by_cases e : i = j
    · subst e
      exact G_put_self _ (by rw [h.sz]; omega)
    · rw [G_put_ne _ (by omega)]
      rw [up_ne _ e] at hl
      exact h.pure i hi hi5 hl
  · rw [up_ne _ (by omega)] at hl
    rw [G_put_ne _ (by omega)]
    exact h.made i hi hl
  · rw [up_ne _ (by omega), n1] at hl
    cases hl
  · rw [up_ne _ (by omega), n2] at hl
    cases hl
  · rw [up_ne _ (by omega), n3] at hl
    cases hl
theorem R1.putm (h : R1 w0 a n k V τ L a' w) (hsz : 65 ≤ a.tmps.size) (i : Nat) (hi : i < 6) (hL : L (6 * i + 5) = false) (M : Array Value) (z : Value) (hM : M.size = lenR n k i) (hz : ∀ j, j < lenR n k i → M[j]? = some z) (hok : ∀ v, v = z → OkV τ 0 n (kdR i) v) (hs1 : strd (kdR i) = 1) (h3 : kdR i = 3 → z = .slice none 0 0 ∧ lenR n k i = k) :
    ∃ τ', R1 w0 a n k V τ' (up L (6 * i + 5)) (a'.put (some (32 + 6 * i)) (.slice (some ⟨w.heap.size, 0, none⟩) (lenR n k i) (lenR n k i))) (w.alloc (.cells M (tyOf (kdR i)))) := by
  obtain ⟨n1, n2, n3⟩ := h.no36 (j := 6 * i + 5) (by omega) hL
  have hn := h.ht.none_at (Nat.le_refl _)
  have hblk := heap_alloc_new w (.cells M (tyOf (kdR i)))
  have hext : ∀ b x, τ b = some x → upT τ w.heap.size (kdR i, lenR n k i) b = some x := fun b x hb => by
    have : b ≠ w.heap.size := fun e => by rw [e, hn] at hb; cases hb
    simp [upT, this, hb]
  refine ⟨upT τ w.heap.size (kdR i, lenR n k i), by simp [Act.put, h.sz], by simp [Act.put, h.df], fun s h4 hs => ?_, fun j hj hj5 hl => ?_, ?_, ?_, fun b hb => ?_, fun i' hi' hl => ?_, fun hl => ?_, fun hl => ?_, fun hl => ?_⟩
  · rw [G_put_ne _ (by omega)]
    exact h.out s h4 hs
  · rw [G_put_ne _ (by omega)]
    rw [up_ne _ (by omega)] at hl
    exact h.pure j hj hj5 hl
  · refine h.ht.add hn hblk (by rw [hM, hs1, Nat.mul_one]) (fun v hv => ?_) (fun b x hb => Below.heap_alloc w _ b (h.ht.lt hb))
    rw [Array.mem_toList_iff, Array.mem_iff_getElem?] at hv
    obtain ⟨j, hj⟩ := hv
    have hjl := (Array.getElem?_eq_some_iff.1 hj).1
    rw [hz j (by omega)] at hj
    exact hok v (Option.some.inj hj).symm
  · exact h.bel.alloc h.bel.size _
  · have := h.bel.size
    simp [upT, show b ≠ w.heap.size by omega, h.low b hb]
  · by_cases e : i' = i
    · subst e
      refine ⟨w.heap.size, G_put_self _ (by rw [h.sz]; omega), by simp [upT], fun h3' y hy => ?_⟩
      rw [cell_of_row _ _ _ _ _ _ hblk, hz y (by rw [(h3 h3').2]; exact hy), (h3 h3').1]
    · rw [up_ne _ (by omega)] at hl
      rw [G_put_ne _ (by omega)]
      obtain ⟨b, q1, q2, q3⟩ := h.made i' hi' hl
      refine ⟨b, q1, hext _ _ q2, fun h3' y hy => ?_⟩
      exact (World.cell?_of_block (Below.heap_alloc w _ b (h.ht.lt q2))).trans (q3 h3' y hy)
  · rw [up_ne _ (by omega), n1] at hl
    cases hl
  · rw [up_ne _ (by omega), n2] at hl
    cases hl
  · rw [up_ne _ (by omega), n3] at hl
    cases hl
theorem R1.putb (h : R1 w0 a n k V τ L a' w) (hsz : 65 ≤ a.tmps.size) (hall : ∀ j, j < 36 → L j = true) (h37 : L 37 = false) {v : Value} (hv : v = .agg #[G a' 32, G a' 38, G a' 44, G a' 50, .slice none 0 0, .slice none 0 0, G a' 56, G a' 62]) (n3 : L 38 = false) : R1 w0 a n k V τ (up L 36) (a'.put (some 63) v) w := by
  refine ⟨by simp [Act.put, h.sz], by simp [Act.put, h.df], fun s h4 hs => ?_, fun i hi hi5 hl => ?_, h.ht, h.bel, h.low, fun i hi hl => ?_, fun hl => ⟨fun j hj => ?_, ?_⟩, fun hl => ?_, fun hl => ?_⟩
  · rw [G_put_ne _ (by omega)]
    exact h.out s h4 hs
  · rw [G_put_ne _ (by omega)]
    exact h.pure i hi hi5 (hall _ hi)
  · rw [up_ne _ (by omega)] at hl
    rw [G_put_ne _ (by omega)]
    exact h.made i hi hl
  · rw [up_ne _ (by omega)]
    exact hall j hj
  · rw [G_put_self _ (by rw [h.sz]; omega), hv]
    repeat rw [G_put_ne _ (by omega)]
  · rw [up_ne _ (by omega), h37] at hl
    cases hl
  · rw [up_ne _ (by omega), n3] at hl
    cases hl
theorem R1.putx (h : R1 w0 a n k V τ L a' w) (hsz : 65 ≤ a.tmps.size) (h36 : L 36 = true) (n3 : L 38 = false) : R1 w0 a n k V τ (up L 37) (a'.put (some 64) (.pointer (some ⟨w.heap.size, 0, none⟩))) (w.alloc (.cells #[G a' 32, G a' 38, G a' 44, G a' 50, .slice none 0 0, .slice none 0 0, G a' 56, G a' 62] 58)) := by
  obtain ⟨hall, hagg⟩ := h.bl h36
  refine ⟨by simp [Act.put, h.sz], by simp [Act.put, h.df], fun s h4 hs => ?_, fun i hi hi5 hl => ?_, h.ht.alloc _, h.bel.alloc h.bel.size _, h.low, fun i hi hl => ?_, fun hl => ⟨fun j hj => ?_, ?_⟩, fun hl => ⟨?_, w.heap.size, ?_, h.bel.size, h.ht.none_at (Nat.le_refl _), ?_⟩, fun hl => ?_⟩
  · rw [G_put_ne _ (by omega)]
    exact h.out s h4 hs
  · rw [G_put_ne _ (by omega)]
    exact h.pure i hi hi5 (hall _ hi)
  · rw [up_ne _ (by omega)] at hl
    rw [G_put_ne _ (by omega)]
    obtain ⟨b, q1, q2, q3⟩ := h.made i hi hl
    exact ⟨b, q1, q2, fun h3' y hy => (World.cell?_of_block (Below.heap_alloc w _ b (h.ht.lt q2))).trans (q3 h3' y hy)⟩
  · rw [up_ne _ (by omega)]
    exact hall j hj
  · rw [G_put_ne _ (by omega), hagg]
    repeat rw [G_put_ne _ (by omega)]
  · rw [up_ne _ (by omega)]
    exact h36
  · exact G_put_self _ (by rw [h.sz]; omega)
  · rw [heap_alloc_new]
    repeat rw [G_put_ne _ (by omega)]
  · rw [up_ne _ (by omega), n3] at hl
    cases hl
theorem R1.puta (h : R1 w0 a n k V τ L a' w) (hsz : 65 ≤ a.tmps.size) (h37 : L 37 = true) {v : Value} (hv : v = G a' 64) : R1 w0 a n k V τ (up L 38) (a'.put (some 4) v) w := by
  obtain ⟨h36, pb, p1, p2, p3, p4⟩ := h.bx h37
  obtain ⟨hall, hagg⟩ := h.bl h36
  refine ⟨by simp [Act.put, h.sz], by simp [Act.put, h.df], fun s h4 hs => ?_, fun i hi hi5 hl => ?_, h.ht, h.bel, h.low, fun i hi hl => ?_, fun hl => ⟨fun j hj => ?_, ?_⟩, fun hl => ⟨?_, pb, ?_, p2, p3, ?_⟩, fun hl => ⟨?_, ?_⟩⟩
  · rw [G_put_ne _ h4]
    exact h.out s h4 hs
  · rw [G_put_ne _ (by omega)]
    exact h.pure i hi hi5 (hall _ hi)
  · rw [up_ne _ (by omega)] at hl
    rw [G_put_ne _ (by omega)]
    exact h.made i hi hl
  · rw [up_ne _ (by omega)]
    exact hall j hj
  · rw [G_put_ne _ (by omega), hagg]
    repeat rw [G_put_ne _ (by omega)]
  · rw [up_ne _ (by omega)]
    exact h36
  · rw [G_put_ne _ (by omega)]
    exact p1
  · rw [p4]
    repeat rw [G_put_ne _ (by omega)]
  · rw [up_ne _ (by omega)]
    exact h37
  · rw [G_put_self _ (by rw [h.sz]; omega), hv, G_put_ne _ (by omega)]
theorem R1.start : R1 w0 a n k V (fun _ => none) (fun _ => false) a w0.drew :=
  ⟨rfl, rfl, fun _ _ _ => rfl, (fun _ _ _ h => by cases h), ⟨fun _ _ _ h => by cases h⟩, ⟨rfl, rfl, rfl, Nat.le_refl _, fun _ _ => rfl⟩, fun _ _ => rfl, (fun _ _ h => by cases h), (fun h => by cases h), (fun h => by cases h), (fun h => by cases h)⟩
end

def chainB (ops : Array Oper) : Bool := (List.range 36).all fun j => if j % 6 = 5 then waits ops 36 j else waits ops (j + 1) j
theorem chain_all {ops : Array Oper} {L : Nat → Bool} (hcl : Cl ops L) (hd : ∀ k, waits ops 36 k = true → L k = true) (h : chainB ops = true) (j : Nat) (hj : j < 36) : L j = true := by
  unfold chainB at h
  rw [List.all_eq_true] at h
  have key : ∀ d j, j < 36 → 5 - j % 6 = d → L j = true := by
    intro d
    induction d with
    | zero =>
      intro j hj e
      have := h j (List.mem_range.2 hj)
      rw [if_pos (by omega)] at this
      exact hd j this
    | succ d ih =>
      intro j hj e
      have := h j (List.mem_range.2 hj)
      rw [if_neg (by omega)] at this
      exact hcl.of_waits this (ih (j + 1) (by omega) (by omega))
  exact key _ j hj rfl

set_option maxHeartbeats 4000000 in
set_option maxRecDepth 100000 in
theorem reg1 (w0 : World) (gb n k cn ck : Nat) (an ai : Option Addr) (m2 m3 m4 : Value) (hgb : w0.heap[gb]? = some (.cells #[.slice an n cn, .slice ai k ck, m2, m3, m4] 79 (0, 0))) (hn : n ≤ 65536) (hk : k ≤ 65536)
    (a : Act) (hsz : a.tmps.size = 405) (g0 : G a 0 = .pointer (some ⟨gb, 0, none⟩)) (Q : Exit → Act → World → Prop)
    (hK : ∀ (a' : Act) (w' : World) (τ : Tags) (C : PC), C.n = n → C.k = k → a'.tmps.size = a.tmps.size → a'.defers = a.defers → (∀ s, s ≠ 4 → (s < 27 ∨ 65 ≤ s) → G a' s = G a s) → G a' 4 = .pointer (some ⟨C.pb, 0, none⟩) → PSt C w0 w' τ 0 (.slice none 0 0) (.slice none 0 0) → (∀ y, y < k → w'.cell? ⟨C.b2, y, none⟩ = some (.slice none 0 0)) → Q .normal a' w') :
    Code.wp Try.prog (regOf Try.f38 1) Q a w0 := by
  conv => arg 2; whnf
  refine wp_region_inv (by kernel_rfl) (fun L a' w => ∃ τ, R1 w0 a n k (valR gb n k (.slice an n cn) (.slice ai k ck)) τ L a' w) (hg_of (by kernel_rfl)) (hlt_of (by kernel_rfl)) ⟨_, R1.start⟩ ?_ ?_
  · rintro L a' w j o ho hj hdp hcl ⟨τ, h⟩
    have hdeps : ∀ i, waits _ j i = true → L i = true := fun i hi => dep_of_waits ho hdp hi
    have hj39 : j < 39 := (Array.getElem?_eq_some_iff.1 ho).1
    have h65 : 65 ≤ a.tmps.size := by omega
    have c0 : w.cell? ⟨gb, 0, none⟩ = some (.slice an n cn) := by
      rw [cell_of_row w gb 0 _ _ _ ((h.bel.block _ (row_lt hgb)).trans hgb)]
      rfl
    have c1 : w.cell? ⟨gb, 1, none⟩ = some (.slice ai k ck) := by
      rw [cell_of_row w gb 1 _ _ _ ((h.bel.block _ (row_lt hgb)).trans hgb)]
      rfl
    have e : ∀ i, i < 36 → i % 6 ≠ 5 → waits _ j i = true → a'.eval (.tmp (27 + i)) = valR gb n k (.slice an n cn) (.slice ai k ck) i := fun i h1 h2 hw => h.pure i h1 h2 (hdeps i hw)
    have e0 : a'.eval (.tmp 0) = .pointer (some ⟨gb, 0, none⟩) := (h.out 0 (by decide) (Or.inl (by decide))).trans g0
    have l52 : ∃ e, Try.prog.underlying 52 = some (.slice e) := ⟨_, Try.underlying52⟩
    obtain rfl | rfl | rfl | rfl | rfl | rfl | rfl | rfl | rfl | rfl | rfl | rfl | rfl | rfl | rfl | rfl | rfl | rfl | rfl | rfl | rfl | rfl | rfl | rfl | rfl | rfl | rfl | rfl | rfl | rfl | rfl | rfl | rfl | rfl | rfl | rfl | rfl | rfl | rfl : j = 0 ∨ j = 1 ∨ j = 2 ∨ j = 3 ∨ j = 4 ∨ j = 5 ∨ j = 6 ∨ j = 7 ∨ j = 8 ∨ j = 9 ∨ j = 10 ∨ j = 11 ∨ j = 12 ∨ j = 13 ∨ j = 14 ∨ j = 15 ∨ j = 16 ∨ j = 17 ∨ j = 18 ∨ j = 19 ∨ j = 20 ∨ j = 21 ∨ j = 22 ∨ j = 23 ∨ j = 24 ∨ j = 25 ∨ j = 26 ∨ j = 27 ∨ j = 28 ∨ j = 29 ∨ j = 30 ∨ j = 31 ∨ j = 32 ∨ j = 33 ∨ j = 34 ∨ j = 35 ∨ j = 36 ∨ j = 37 ∨ j = 38 := by omega
    all_goals obtain rfl := Option.some.inj ho
    · exact wp_val (ex_move (.tmp 0) rfl e0) ⟨τ, h.putp h65 0 (by decide) (by decide) hj⟩
    · exact wp_val (ex_nil (.tmp 27) rfl (e 0 (by decide) (by decide) (by kernel_rfl))) ⟨τ, h.putp h65 1 (by decide) (by decide) hj⟩
    · exact wp_val (ex_field79 (.tmp 28) 0 (by decide) rfl (e 1 (by decide) (by decide) (by kernel_rfl))) ⟨τ, h.putp h65 2 (by decide) (by decide) hj⟩
    · exact wp_val (ex_load 52 (.tmp 29) rfl agg52 (e 2 (by decide) (by decide) (by kernel_rfl)) c0) ⟨τ, h.putp h65 3 (by decide) (by decide) hj⟩
    · exact wp_val (ex_len (.tmp 30) 52 rfl (e 3 (by decide) (by decide) (by kernel_rfl)) l52) ⟨τ, h.putp h65 4 (by decide) (by decide) hj⟩
    · obtain ⟨M, hM, hz, hmk⟩ := make_row 37 22 (.slice none 0 0) 24 Try.underlying37 Try.info22 rfl n (by omega) (by omega)
      exact wp_val (ex_make 37 (.tmp 31) (.tmp 31) rfl (e 4 (by decide) (by decide) (by kernel_rfl)) (e 4 (by decide) (by decide) (by kernel_rfl)) (hmk w)) (h.putm h65 0 (by decide) hj M (.slice none 0 0) hM hz (fun v hv => hv ▸ .inl rfl) rfl (fun h3 => absurd h3 (by decide)))
    · exact wp_val (ex_move (.tmp 0) rfl e0) ⟨τ, h.putp h65 6 (by decide) (by decide) hj⟩
    · exact wp_val (ex_nil (.tmp 33) rfl (e 6 (by decide) (by decide) (by kernel_rfl))) ⟨τ, h.putp h65 7 (by decide) (by decide) hj⟩
    · exact wp_val (ex_field79 (.tmp 34) 0 (by decide) rfl (e 7 (by decide) (by decide) (by kernel_rfl))) ⟨τ, h.putp h65 8 (by decide) (by decide) hj⟩
    · exact wp_val (ex_load 52 (.tmp 35) rfl agg52 (e 8 (by decide) (by decide) (by kernel_rfl)) c0) ⟨τ, h.putp h65 9 (by decide) (by decide) hj⟩
    · exact wp_val (ex_len (.tmp 36) 52 rfl (e 9 (by decide) (by decide) (by kernel_rfl)) l52) ⟨τ, h.putp h65 10 (by decide) (by decide) hj⟩
    · obtain ⟨M, hM, hz, hmk⟩ := make_row 56 61 (.slice none 0 0) 24 Try.underlying56 Try.info61 rfl n (by omega) (by omega)
      exact wp_val (ex_make 56 (.tmp 37) (.tmp 37) rfl (e 10 (by decide) (by decide) (by kernel_rfl)) (e 10 (by decide) (by decide) (by kernel_rfl)) (hmk w)) (h.putm h65 1 (by decide) hj M (.slice none 0 0) hM hz (fun v hv => hv ▸ .inl rfl) rfl (fun h3 => absurd h3 (by decide)))
    · exact wp_val (ex_move (.tmp 0) rfl e0) ⟨τ, h.putp h65 12 (by decide) (by decide) hj⟩
    · exact wp_val (ex_nil (.tmp 39) rfl (e 12 (by decide) (by decide) (by kernel_rfl))) ⟨τ, h.putp h65 13 (by decide) (by decide) hj⟩
    · exact wp_val (ex_field79 (.tmp 40) 1 (by decide) rfl (e 13 (by decide) (by decide) (by kernel_rfl))) ⟨τ, h.putp h65 14 (by decide) (by decide) hj⟩
    · exact wp_val (ex_load 52 (.tmp 41) rfl agg52 (e 14 (by decide) (by decide) (by kernel_rfl)) c1) ⟨τ, h.putp h65 15 (by decide) (by decide) hj⟩
    · exact wp_val (ex_len (.tmp 42) 52 rfl (e 15 (by decide) (by decide) (by kernel_rfl)) l52) ⟨τ, h.putp h65 16 (by decide) (by decide) hj⟩
    · obtain ⟨M, hM, hz, hmk⟩ := make_row 37 22 (.slice none 0 0) 24 Try.underlying37 Try.info22 rfl k (by omega) (by omega)
      exact wp_val (ex_make 37 (.tmp 43) (.tmp 43) rfl (e 16 (by decide) (by decide) (by kernel_rfl)) (e 16 (by decide) (by decide) (by kernel_rfl)) (hmk w)) (h.putm h65 2 (by decide) hj M (.slice none 0 0) hM hz (fun v hv => hv ▸ .inl rfl) rfl (fun h3 => ⟨rfl, rfl⟩))
    · exact wp_val (ex_move (.tmp 0) rfl e0) ⟨τ, h.putp h65 18 (by decide) (by decide) hj⟩
    · exact wp_val (ex_nil (.tmp 45) rfl (e 18 (by decide) (by decide) (by kernel_rfl))) ⟨τ, h.putp h65 19 (by decide) (by decide) hj⟩
    · exact wp_val (ex_field79 (.tmp 46) 1 (by decide) rfl (e 19 (by decide) (by decide) (by kernel_rfl))) ⟨τ, h.putp h65 20 (by decide) (by decide) hj⟩
    · exact wp_val (ex_load 52 (.tmp 47) rfl agg52 (e 20 (by decide) (by decide) (by kernel_rfl)) c1) ⟨τ, h.putp h65 21 (by decide) (by decide) hj⟩
    · exact wp_val (ex_len (.tmp 48) 52 rfl (e 21 (by decide) (by decide) (by kernel_rfl)) l52) ⟨τ, h.putp h65 22 (by decide) (by decide) hj⟩
    · obtain ⟨M, hM, hz, hmk⟩ := make_row 22 3 (.int .i64 0) 8 Try.underlying22 Try.info3 rfl k (by omega) (by omega)
      exact wp_val (ex_make 22 (.tmp 49) (.tmp 49) rfl (e 22 (by decide) (by decide) (by kernel_rfl)) (e 22 (by decide) (by decide) (by kernel_rfl)) (hmk w)) (h.putm h65 3 (by decide) hj M (.int .i64 0) hM hz (fun v hv => hv ▸ ⟨0, rfl⟩) rfl (fun h3 => absurd h3 (by decide)))
    · exact wp_val (ex_move (.tmp 0) rfl e0) ⟨τ, h.putp h65 24 (by decide) (by decide) hj⟩
    · exact wp_val (ex_nil (.tmp 51) rfl (e 24 (by decide) (by decide) (by kernel_rfl))) ⟨τ, h.putp h65 25 (by decide) (by decide) hj⟩
    · exact wp_val (ex_field79 (.tmp 52) 0 (by decide) rfl (e 25 (by decide) (by decide) (by kernel_rfl))) ⟨τ, h.putp h65 26 (by decide) (by decide) hj⟩
    · exact wp_val (ex_load 52 (.tmp 53) rfl agg52 (e 26 (by decide) (by decide) (by kernel_rfl)) c0) ⟨τ, h.putp h65 27 (by decide) (by decide) hj⟩
    · exact wp_val (ex_len (.tmp 54) 52 rfl (e 27 (by decide) (by decide) (by kernel_rfl)) l52) ⟨τ, h.putp h65 28 (by decide) (by decide) hj⟩
    · obtain ⟨M, hM, hz, hmk⟩ := make_row 37 22 (.slice none 0 0) 24 Try.underlying37 Try.info22 rfl n (by omega) (by omega)
      exact wp_val (ex_make 37 (.tmp 55) (.tmp 55) rfl (e 28 (by decide) (by decide) (by kernel_rfl)) (e 28 (by decide) (by decide) (by kernel_rfl)) (hmk w)) (h.putm h65 4 (by decide) hj M (.slice none 0 0) hM hz (fun v hv => hv ▸ .inl rfl) rfl (fun h3 => absurd h3 (by decide)))
    · exact wp_val (ex_move (.tmp 0) rfl e0) ⟨τ, h.putp h65 30 (by decide) (by decide) hj⟩
    · exact wp_val (ex_nil (.tmp 57) rfl (e 30 (by decide) (by decide) (by kernel_rfl))) ⟨τ, h.putp h65 31 (by decide) (by decide) hj⟩
    · exact wp_val (ex_field79 (.tmp 58) 0 (by decide) rfl (e 31 (by decide) (by decide) (by kernel_rfl))) ⟨τ, h.putp h65 32 (by decide) (by decide) hj⟩
    · exact wp_val (ex_load 52 (.tmp 59) rfl agg52 (e 32 (by decide) (by decide) (by kernel_rfl)) c0) ⟨τ, h.putp h65 33 (by decide) (by decide) hj⟩
    · exact wp_val (ex_len (.tmp 60) 52 rfl (e 33 (by decide) (by decide) (by kernel_rfl)) l52) ⟨τ, h.putp h65 34 (by decide) (by decide) hj⟩
    · obtain ⟨M, hM, hz, hmk⟩ := make_row 23 4 (.bool false) 1 Try.underlying23 Try.info4 rfl n (by omega) (by omega)
      exact wp_val (ex_make 23 (.tmp 61) (.tmp 61) rfl (e 34 (by decide) (by decide) (by kernel_rfl)) (e 34 (by decide) (by decide) (by kernel_rfl)) (hmk w)) (h.putm h65 5 (by decide) hj M (.bool false) hM hz (fun v hv => hv ▸ ⟨false, rfl⟩) rfl (fun h3 => absurd h3 (by decide)))
    · have hall := chain_all hcl hdeps (by kernel_rfl)
      have n37 : L 37 = false := by
        cases e : L 37 with
        | false => rfl
        | true =>
          have := (h.bx e).1
          rw [hj] at this
          cases this
      have n38 : L 38 = false := by
        cases e : L 38 with
        | false => rfl
        | true =>
          have := (h.as_ e).1
          rw [n37] at this
          cases this
      obtain ⟨b0, q0, _⟩ := h.made 0 (by decide) (hall _ (by decide))
      obtain ⟨b1, q1, _⟩ := h.made 1 (by decide) (hall _ (by decide))
      obtain ⟨b2, q2, _⟩ := h.made 2 (by decide) (hall _ (by decide))
      obtain ⟨b3, q3, _⟩ := h.made 3 (by decide) (hall _ (by decide))
      obtain ⟨b6, q6, _⟩ := h.made 4 (by decide) (hall _ (by decide))
      obtain ⟨b7, q7, _⟩ := h.made 5 (by decide) (hall _ (by decide))
      refine wp_val (ex_build58 (.tmp 32) (.tmp 38) (.tmp 44) (.tmp 50) (.tmp 56) (.tmp 62) rfl q0 q1 q2 q3 q6 q7) ⟨τ, h.putb h65 hall n37 ?_ n38⟩
      simp only [Nat.mul_zero, Nat.add_zero, Nat.reduceMul, Nat.reduceAdd] at q0 q1 q2 q3 q6 q7
      rw [q0, q1, q2, q3, q6, q7]
    · have h36 : L 36 = true := hdeps 36 (by kernel_rfl)
      have n38 : L 38 = false := by
        cases e : L 38 with
        | false => rfl
        | true =>
          have := (h.as_ e).1
          rw [hj] at this
          cases this
      exact wp_val (ex_box58 (.tmp 63) rfl (h.bl h36).2) ⟨τ, h.putx h65 h36 n38⟩
    · have h37 : L 37 = true := hdeps 37 (by kernel_rfl)
      exact wp_val (ex_assign (.tmp 64) rfl rfl) ⟨τ, h.puta h65 h37 rfl⟩
  · rintro L a' w hal ⟨τ, h⟩
    have h38 := hal 38 (by decide)
    obtain ⟨h37, g4⟩ := h.as_ h38
    obtain ⟨h36, pb, p1, p2, p3, p4⟩ := h.bx h37
    obtain ⟨hall, _⟩ := h.bl h36
    obtain ⟨b0, q0, t0, _⟩ := h.made 0 (by decide) (hall _ (by decide))
    obtain ⟨b1, q1, t1, _⟩ := h.made 1 (by decide) (hall _ (by decide))
    obtain ⟨b2, q2, t2, r2⟩ := h.made 2 (by decide) (hall _ (by decide))
    obtain ⟨b3, q3, t3, _⟩ := h.made 3 (by decide) (hall _ (by decide))
    obtain ⟨b6, q6, t6, _⟩ := h.made 4 (by decide) (hall _ (by decide))
    obtain ⟨b7, q7, t7, _⟩ := h.made 5 (by decide) (hall _ (by decide))
    simp only [Nat.mul_zero, Nat.add_zero, Nat.reduceMul, Nat.reduceAdd] at q0 q1 q2 q3 q6 q7
    rw [q0, q1, q2, q3, q6, q7] at p4
    exact hK a' w τ ⟨n, k, pb, b0, b1, b2, b3, b6, b7⟩ rfl rfl h.sz h.df h.out (g4.trans p1) ⟨h.ht, h.bel, h.low, p2, p3, p4, .inl rfl, .inl rfl, t0, t1, t2, t3, t6, t7⟩ (r2 rfl)
end Go.Proofs.Qxb6001364a
