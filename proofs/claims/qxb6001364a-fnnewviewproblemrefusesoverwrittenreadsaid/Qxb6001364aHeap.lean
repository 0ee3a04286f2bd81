import Derived.Test.Qxb6001364aMap
namespace Go.Proofs.Qxb6001364a
open Go.ChangeShapes Go.WideShapes Go.ChangeAt Go.RowKit Go.Maps

/-! ### A typed heap: each block of the problem has a kind and a capacity -/
/-- Kinds: 0 ints, 1 nodes, 2 rows of ints, 3 rows of nodes, 4 writes, 5 rows of writes, 6 bools. -/
abbrev Tags := Nat → Option (Nat × Nat)
def tyOf : Nat → TypeId
  | 0 => 3
  | 1 => 3
  | 2 => 22
  | 3 => 22
  | 4 => 63
  | 5 => 61
  | _ => 4
def strd : Nat → Nat
  | 4 => 2
  | _ => 1

/-- A slice (nil, or at the head of a block of that kind) of at most L elements. -/
def SlTo (τ : Tags) (L k : Nat) (v : Value) : Prop :=
  v = .slice none 0 0 ∨ ∃ b l c, v = .slice (some ⟨b, 0, none⟩) l c ∧ τ b = some (k, c) ∧ l ≤ c ∧ l ≤ L ∧ c ≤ maxLen

def OkV (τ : Tags) (L n : Nat) : Nat → Value → Prop
  | 0, v => ∃ z : Int, v = .int .i64 z
  | 1, v => ∃ z : Nat, v = .int .i64 z ∧ z < n
  | 2, v => SlTo τ L 0 v
  | 3, v => SlTo τ L 1 v
  | 4, v => ∃ z : Int, v = .int .i64 z
  | 5, v => SlTo τ L 4 v
  | _, v => ∃ b : Bool, v = .bool b

structure HT (w : World) (τ : Tags) (L n : Nat) : Prop where
  blk : ∀ b k c, τ b = some (k, c) → ∃ A : Array Value, w.heap[b]? = some (.cells A (tyOf k) (0, 0)) ∧ A.size = c * strd k ∧ ∀ v ∈ A.toList, OkV τ L n k v

def upT (τ : Tags) (b : Nat) (x : Nat × Nat) : Tags := fun i => if i = b then some x else τ i

/-- What a step of the problem's making may turn: blocks of a kind, and new ones. -/
structure Stp (τ : Tags) (w : World) (τ' : Tags) (w' : World) : Prop where
  ext : ∀ b x, τ b = some x → τ' b = some x
  new : ∀ b, τ b = none → b < w.heap.size → τ' b = none
  os : w'.os = w.os
  tape : w'.tape = w.tape
  output : w'.output = w.output
  size : w.heap.size ≤ w'.heap.size
  keep : ∀ b, τ b = none → b < w.heap.size → w'.heap[b]? = w.heap[b]?

theorem Stp.refl (τ : Tags) (w : World) : Stp τ w τ w := ⟨fun _ _ h => h, fun _ h _ => h, rfl, rfl, rfl, Nat.le_refl _, fun _ _ _ => rfl⟩
theorem Stp.trans {τ τ' τ'' : Tags} {w w' w'' : World} (h : Stp τ w τ' w') (g : Stp τ' w' τ'' w'') : Stp τ w τ'' w'' :=
  ⟨fun b x hb => g.ext b x (h.ext b x hb), fun b hb hl => g.new b (h.new b hb hl) (Nat.lt_of_lt_of_le hl h.size), g.os.trans h.os, g.tape.trans h.tape, g.output.trans h.output, Nat.le_trans h.size g.size,
    fun b hb hl => (g.keep b (h.new b hb hl) (Nat.lt_of_lt_of_le hl h.size)).trans (h.keep b hb hl)⟩
theorem Stp.below {τ τ' : Tags} {w w' : World} {B : Nat} (h : Stp τ w τ' w') (hB : ∀ b, b < B → τ b = none) (hs : B ≤ w.heap.size) : Below B w w' :=
  ⟨h.os, h.tape, h.output, h.size, fun k hk => h.keep k (hB k hk) (Nat.lt_of_lt_of_le hk hs)⟩
/-- A world that is the old one with new blocks, but for a block of no kind. -/
theorem Stp.alloc (τ : Tags) (w : World) (o : Obj) : Stp τ w τ (w.alloc o) :=
  ⟨fun _ _ h => h, fun _ h _ => h, rfl, rfl, rfl, by simp, fun b _ hl => Below.heap_alloc w o b hl⟩
theorem Stp.drew (τ : Tags) (w : World) : Stp τ w τ w.drew := ⟨fun _ _ h => h, fun _ h _ => h, rfl, rfl, rfl, Nat.le_refl _, fun _ _ _ => rfl⟩

/-- Blocks of kind 3 are as they were. -/
def K3 (τ : Tags) (w w' : World) : Prop := ∀ b c, τ b = some (3, c) → b < w.heap.size → w'.heap[b]? = w.heap[b]?
theorem K3.refl (τ : Tags) (w : World) : K3 τ w w := fun _ _ _ _ => rfl
theorem K3.trans {τ τ' : Tags} {w w' w'' : World} (h : K3 τ w w') (hs : Stp τ w τ' w') (g : K3 τ' w' w'') : K3 τ w w'' := fun b c hb hl => (g b c (hs.ext _ _ hb) (Nat.lt_of_lt_of_le hl hs.size)).trans (h b c hb hl)
theorem K3.alloc (τ : Tags) (w : World) (o : Obj) : K3 τ w (w.alloc o) := fun b _ _ hl => Below.heap_alloc w o b hl
theorem K3.put {τ : Tags} {w : World} {b i : Nat} {x : Nat × Nat} (hb : τ b = some x) (h3 : x.1 ≠ 3) (v : Value) : K3 τ w (w.setCell ⟨b, i, none⟩ v) := fun j c hj _ =>
  heap_setCell_other _ _ _ _ (fun e => by
    have e' : j = b := e
    rw [e', hb] at hj
    cases hj
    exact h3 rfl)

theorem SlTo.mono {τ τ' : Tags} {L L' k : Nat} {v : Value} (h : SlTo τ L k v) (hτ : ∀ b x, τ b = some x → τ' b = some x) (hL : L ≤ L') : SlTo τ' L' k v := by
  rcases h with h | ⟨b, l, c, h1, h2, h3, h4, h5⟩
  · exact .inl h
  · exact .inr ⟨b, l, c, h1, hτ _ _ h2, h3, Nat.le_trans h4 hL, h5⟩
theorem OkV.mono {τ τ' : Tags} {L L' n k : Nat} {v : Value} (h : OkV τ L n k v) (hτ : ∀ b x, τ b = some x → τ' b = some x) (hL : L ≤ L') : OkV τ' L' n k v := by
  unfold OkV at *
  split at h
  case h_1 => exact h
  case h_2 => exact h
  case h_3 => exact SlTo.mono h hτ hL
  case h_4 => exact SlTo.mono h hτ hL
  case h_5 => exact h
  case h_6 => exact SlTo.mono h hτ hL
  case h_7 => exact h

theorem HT.lt {w : World} {τ : Tags} {L n b : Nat} {x : Nat × Nat} (h : HT w τ L n) (hb : τ b = some x) : b < w.heap.size := by
  obtain ⟨A, hA, _⟩ := h.blk b x.1 x.2 hb
  exact row_lt hA
theorem HT.none_at {w : World} {τ : Tags} {L n b : Nat} (h : HT w τ L n) (hb : w.heap.size ≤ b) : τ b = none := by
  cases ht : τ b with
  | none => rfl
  | some x => exact absurd (h.lt ht) (by omega)
theorem HT.same {w w' : World} {τ : Tags} {L n : Nat} (h : HT w τ L n) (hs : ∀ b x, τ b = some x → w'.heap[b]? = w.heap[b]?) : HT w' τ L n :=
  ⟨fun b k c hb => by
    obtain ⟨A, hA, r⟩ := h.blk b k c hb
    exact ⟨A, (hs b _ hb).trans hA, r⟩⟩
theorem HT.drew {w : World} {τ : Tags} {L n : Nat} (h : HT w τ L n) : HT w.drew τ L n := h.same fun _ _ _ => rfl
theorem HT.alloc {w : World} {τ : Tags} {L n : Nat} (h : HT w τ L n) (o : Obj) : HT (w.alloc o) τ L n := h.same fun b _ hb => Below.heap_alloc w o b (h.lt hb)
theorem HT.more {w : World} {τ : Tags} {L L' n : Nat} (h : HT w τ L n) (hL : L ≤ L') : HT w τ L' n :=
  ⟨fun b k c hb => by
    obtain ⟨A, hA, hs, hv⟩ := h.blk b k c hb
    exact ⟨A, hA, hs, fun v hm => (hv v hm).mono (fun _ _ h => h) hL⟩⟩

/-- A new block of a kind. -/
theorem HT.add {w w' : World} {τ : Tags} {L n k c b : Nat} (h : HT w τ L n) (hn : τ b = none) {A : Array Value} (hA : w'.heap[b]? = some (.cells A (tyOf k) (0, 0))) (hs : A.size = c * strd k)
    (hv : ∀ v ∈ A.toList, OkV τ L n k v) (hold : ∀ i x, τ i = some x → w'.heap[i]? = w.heap[i]?) : HT w' (upT τ b (k, c)) L n := by
  have hext : ∀ i x, τ i = some x → upT τ b (k, c) i = some x := fun i x hi => by
    have : i ≠ b := fun e => by rw [e, hn] at hi; cases hi
    simp [upT, this, hi]
  refine ⟨fun i k' c' hi => ?_⟩
  by_cases e : i = b
  · subst e
    simp [upT] at hi
    obtain ⟨rfl, rfl⟩ := hi
    exact ⟨A, hA, hs, fun v hm => (hv v hm).mono hext (Nat.le_refl _)⟩
  · simp [upT, e] at hi
    obtain ⟨A', hA', hs', hv'⟩ := h.blk i k' c' hi
    exact ⟨A', (hold i _ hi).trans hA', hs', fun v hm => (hv' v hm).mono hext (Nat.le_refl _)⟩

/-- Another content of a block of a kind. -/
theorem HT.set {w w' : World} {τ : Tags} {L n k c b : Nat} (h : HT w τ L n) (hb : τ b = some (k, c)) {A : Array Value} (hA : w'.heap[b]? = some (.cells A (tyOf k) (0, 0))) (hs : A.size = c * strd k)
    (hv : ∀ v ∈ A.toList, OkV τ L n k v) (hold : ∀ i, i ≠ b → w'.heap[i]? = w.heap[i]?) : HT w' τ L n := by
  refine ⟨fun i k' c' hi => ?_⟩
  by_cases e : i = b
  · subst e
    rw [hb] at hi
    cases hi
    exact ⟨A, hA, hs, hv⟩
  · obtain ⟨A', hA', hs', hv'⟩ := h.blk i k' c' hi
    exact ⟨A', (hold i e).trans hA', hs', hv'⟩

/-- A cell of a block of a kind (one cell an element). -/
theorem HT.cell {w : World} {τ : Tags} {L n k c b i : Nat} (h : HT w τ L n) (hb : τ b = some (k, c)) (hk : strd k = 1) (hi : i < c) :
    ∃ v, w.cell? ⟨b, i, none⟩ = some v ∧ OkV τ L n k v ∧ w.frozen? ⟨b, i, none⟩ = false := by
  obtain ⟨A, hA, hs, hv⟩ := h.blk b k c hb
  rw [hk, Nat.mul_one] at hs
  have hlt : i < A.size := by omega
  refine ⟨A[i], ?_, hv _ (by simp), frozen_of_row w b i A _ hA⟩
  rw [cell_of_row w b i A _ _ hA]
  simp [hlt]

/-- It is set. -/
theorem HT.put {w : World} {τ : Tags} {L n k c b : Nat} (h : HT w τ L n) (hb : τ b = some (k, c)) (i : Nat) {v : Value} (hv : OkV τ L n k v) : HT (w.setCell ⟨b, i, none⟩ v) τ L n := by
  obtain ⟨A, hA, hs, hok⟩ := h.blk b k c hb
  refine h.set hb (A := A.setIfInBounds i v) (heap_setCell_same _ _ _ _ _ _ hA) (by simpa using hs) (fun u hu => ?_) (fun j hj => heap_setCell_other _ _ _ _ hj)
  rw [Array.toList_setIfInBounds] at hu
  rcases List.mem_or_eq_of_mem_set hu with hu | rfl
  · exact hok u hu
  · exact hv
theorem Stp.put {w : World} {τ : Tags} {b i : Nat} {x : Nat × Nat} (hb : τ b = some x) (v : Value) : Stp τ w τ (w.setCell ⟨b, i, none⟩ v) :=
  ⟨fun _ _ h => h, fun _ h _ => h, rfl, rfl, rfl, by simp [World.setCell], fun j hj _ => heap_setCell_other _ _ _ _ (fun e => by rw [e, hb] at hj; cases hj)⟩

def lenV : Value → Nat
  | .slice _ l _ => l
  | _ => 0

/-- append of one element. -/
theorem HT.append3 {w : World} {τ : Tags} {L n k : Nat} {v : Value} (h : HT w τ L n) (hs : SlTo τ L k v) (t ty : TypeId) (z : Value) (bytes : Nat) (ht : Try.prog.underlying t = some (.slice (tyOf k)))
    (hi : (Try.prog.info? (tyOf k)).map (fun i => (i.zero, i.size, i.bytes)) = some (some z, strd k, bytes)) (hzs : z.cells.size = strd k) (hz : ∀ u ∈ z.cells.toList, OkV τ L n k u) (hb : bytes ≤ 24) (hL : L < 1099511627776)
    (ad : Addr) (c0 : Nat) (news : List Value) (hl : news.length = strd k) (hnews : ∀ j u, news[j]? = some u → w.cell? (ad.add j) = some u) (h1 : ∀ u ∈ news, u.oneCell' = true) (hok : ∀ u ∈ news, OkV τ L n k u) :
    ∃ g c w' τ', (Builtin.append_ #[t, t] ty #[v, .slice (some ad) 1 c0]).run Try.prog w = .ok (.slice (some ⟨g, 0, none⟩) (lenV v + 1) c) w' ∧ HT w' τ' (L + 1) n ∧ SlTo τ' (L + 1) k (.slice (some ⟨g, 0, none⟩) (lenV v + 1) c) ∧ Stp τ w τ' w' ∧ (k ≠ 3 → K3 τ w w') := by
  obtain ⟨i0, hi0, hz0, hz1, hz2⟩ := info_parts hi
  have hst : 0 < strd k := by unfold strd; split <;> omega
  have hfresh : ∀ (x : Nat × Nat) (o : Obj), Stp τ w (upT τ w.heap.size x) (w.drew.alloc o) := fun x o =>
    ⟨fun b y hb => by
        have : b ≠ w.heap.size := fun e => by have := h.lt hb; omega
        simp [upT, this, hb],
      fun b hb hl => by simp [upT, hb]; omega, rfl, rfl, rfl, by simp, fun b _ hl => Below.heap_alloc w.drew o b hl⟩
  have hzc : ∀ m, ∀ u ∈ (Builtin.zeroCells z.cells m).toList, OkV τ L n k u := by
    intro m u hu
    simp [Builtin.zeroCells] at hu
    obtain ⟨j, hj, rfl⟩ := hu
    refine hz _ ?_
    have hj' : j % z.cells.size < z.cells.size := Nat.mod_lt _ (by omega)
    rw [getElem!_pos z.cells _ hj']
    simp
  rcases hs with rfl | ⟨b, l, c, rfl, hτ, hlc, hlL, hcm⟩
  · have hr := run_append_nil (P := Try.prog) w t ty (tyOf k) i0 z ht hi0 hz0 ad 1 c0 news (by rw [hz1]; omega) hnews (by omega) (by omega) (by rw [hz2]; omega)
    have hge := grownCap_ge w 1 0 (tyOf k)
    have hcm : grownCap w 1 0 (tyOf k) ≤ maxLen := grownCap_le_maxLen w 1 0 _ (by unfold maxLen; omega)
    refine ⟨w.heap.size, _, _, upT τ w.heap.size (k, grownCap w 1 0 (tyOf k)), by simpa [lenV] using hr, ?_, .inr ⟨_, _, _, rfl, by simp [upT], by simpa [lenV] using hge, by simp [lenV], hcm⟩, hfresh _ _, fun _ b _ _ hl => Below.heap_alloc w.drew _ b hl⟩
    refine (HT.add (h.drew.more (Nat.le_succ L)) (h.none_at (Nat.le_refl _)) (heap_alloc_new w.drew _) ?_ ?_ (fun i x hx => Below.heap_alloc w.drew _ i (h.lt hx)))
    · simp only [Array.size_append, List.size_toArray, size_zeroCells, hl, hzs]
      rw [Nat.add_comm, ← Nat.succ_mul]
      congr 1
      omega
    · intro u hu
      simp only [Array.toList_append, List.mem_append] at hu
      rcases hu with hu | hu
      · exact (hok u hu).mono (fun _ _ h => h) (Nat.le_succ L)
      · exact (hzc _ u hu).mono (fun _ _ h => h) (Nat.le_succ L)
  · obtain ⟨A, hA, hAs, hAv⟩ := h.blk b k c hτ
    by_cases hroom : l + 1 ≤ c
    · have hfit : l * strd k + strd k ≤ c * strd k := by
        rw [← Nat.succ_mul]
        exact Nat.mul_le_mul_right _ hroom
      have hr := run_append_room (P := Try.prog) w t ty (tyOf k) i0 ht hi0 b l c A hA ad 1 c0 news (by rw [hz1]; omega) hnews h1 hroom (by rw [hz1, hl, hAs]; exact hfit)
      refine ⟨b, c, _, τ, hr, ?_, .inr ⟨b, _, c, rfl, hτ, by simpa [lenV] using hroom, by simpa [lenV] using hlL, hcm⟩, ⟨fun _ _ h => h, fun _ h _ => h, rfl, rfl, rfl, by simp, fun j hj _ => setRow_other w b j _ (fun e => by rw [e, hτ] at hj; cases hj)⟩, fun h3 j c' hj _ => setRow_other w b j _ (fun e => by rw [e, hτ] at hj; cases hj; exact h3 rfl)⟩
      refine (h.more (Nat.le_succ L)).set hτ (setRow_heap w b A _ _ _ hA) ?_ ?_ (fun j hj => setRow_other w b j _ hj)
      · simp [hl, hz1]
        omega
      · intro u hu
        simp only [List.mem_append] at hu
        rcases hu with (hu | hu) | hu
        · exact (hAv u (List.mem_of_mem_take hu)).mono (fun _ _ h => h) (Nat.le_succ L)
        · exact (hok u hu).mono (fun _ _ h => h) (Nat.le_succ L)
        · exact (hAv u (List.mem_of_mem_drop hu)).mono (fun _ _ h => h) (Nat.le_succ L)
    · have hlen : (A.toList.take (l * strd k)).length = l * strd k := by
        have : l * strd k ≤ A.size := by rw [hAs]; exact Nat.mul_le_mul_right _ hlc
        simp [this]
      have hr := run_append_grow (P := Try.prog) w t ty (tyOf k) i0 z ht hi0 hz0 ⟨b, 0, none⟩ l c (A.toList.take (l * strd k)) (by rw [hz1]; exact hlen) (fun j u hj => by
          have hadd : (⟨b, 0, none⟩ : Addr).add j = ⟨b, j, none⟩ := by unfold Addr.add; split <;> simp_all
          rw [hadd, cell_of_row w b j A _ _ hA]
          rw [List.getElem?_take] at hj
          split at hj
          · simpa using hj
          · cases hj) ad 1 c0 news (by rw [hz1]; omega) hnews (by omega) (by omega) (growslice_fits (by omega) (by rw [hz2]; have : (l + 1) * bytes ≤ 1099511627776 * 24 := Nat.mul_le_mul (by omega) hb; omega))
      have hge := grownCap_ge w (l + 1) c (tyOf k)
      have hcm' : grownCap w (l + 1) c (tyOf k) ≤ maxLen := grownCap_le_maxLen w (l + 1) c _ (by unfold maxLen; omega)
      refine ⟨w.heap.size, _, _, upT τ w.heap.size (k, grownCap w (l + 1) c (tyOf k)), by simpa [lenV] using hr, ?_, .inr ⟨_, _, _, rfl, by simp [upT], by simpa [lenV] using hge, by simpa [lenV] using hlL, hcm'⟩, hfresh _ _, fun _ b _ _ hl => Below.heap_alloc w.drew _ b hl⟩
      refine (HT.add (h.drew.more (Nat.le_succ L)) (h.none_at (Nat.le_refl _)) (heap_alloc_new w.drew _) ?_ ?_ (fun i x hx => Below.heap_alloc w.drew _ i (h.lt hx)))
      · simp only [Array.size_append, List.size_toArray, size_zeroCells, hzs, List.length_append, hl, hlen]
        rw [← Nat.succ_mul, ← Nat.add_mul]
        congr 1
        omega
      · intro u hu
        simp only [Array.toList_append, List.mem_append] at hu
        rcases hu with (hu | hu) | hu
        · exact (hAv u (List.mem_of_mem_take hu)).mono (fun _ _ h => h) (Nat.le_succ L)
        · exact (hok u hu).mono (fun _ _ h => h) (Nat.le_succ L)
        · exact (hzc _ u hu).mono (fun _ _ h => h) (Nat.le_succ L)

theorem HT.append {w : World} {τ : Tags} {L n k : Nat} {v : Value} (h : HT w τ L n) (hs : SlTo τ L k v) (t ty : TypeId) (z : Value) (bytes : Nat) (ht : Try.prog.underlying t = some (.slice (tyOf k)))
    (hi : (Try.prog.info? (tyOf k)).map (fun i => (i.zero, i.size, i.bytes)) = some (some z, strd k, bytes)) (hzs : z.cells.size = strd k) (hz : ∀ u ∈ z.cells.toList, OkV τ L n k u) (hb : bytes ≤ 24) (hL : L < 1099511627776)
    (ad : Addr) (c0 : Nat) (news : List Value) (hl : news.length = strd k) (hnews : ∀ j u, news[j]? = some u → w.cell? (ad.add j) = some u) (h1 : ∀ u ∈ news, u.oneCell' = true) (hok : ∀ u ∈ news, OkV τ L n k u) :
    ∃ g c w' τ', (Builtin.append_ #[t, t] ty #[v, .slice (some ad) 1 c0]).run Try.prog w = .ok (.slice (some ⟨g, 0, none⟩) (lenV v + 1) c) w' ∧ HT w' τ' (L + 1) n ∧ SlTo τ' (L + 1) k (.slice (some ⟨g, 0, none⟩) (lenV v + 1) c) ∧ Stp τ w τ' w' := by
  obtain ⟨g, c, w', τ', h1, h2, h3, h4, _⟩ := h.append3 hs t ty z bytes ht hi hzs hz hb hL ad c0 news hl hnews h1 hok
  exact ⟨g, c, w', τ', h1, h2, h3, h4⟩

/-! ### append at a step -/
theorem wpList_append_run {w : World} {ops : Array Oper} {rest : List Oper} {o : Oper} {a : Act} {Q : Exit → Act → World → Prop} (hg : o.guard = none) (s x : Operand) (t : TypeId)
    (hop : o.op = Op.call { callee := Callee.builtin Builtin.append, args := #[s, x], argTypes := #[t, t] }) (v1 v2 : Value) (hs : a.eval s = v1) (hx : a.eval x = v2) (v' : Value) (w' : World)
    (hr : (Builtin.append_ #[t, t] o.type #[v1, v2]).run Try.prog w = .ok v' w') (hK : wpList Try.prog ops Q rest (a.put o.dst v') w') : wpList Try.prog ops Q (o :: rest) a w := by
  refine wpList_plain hg fun K' hK' => ?_
  unfold Oper.wp
  simp [execOp, hop, resolve, invoke, builtin, hs, hx, hr, Result.andThen]
  exact hK' _ _ hK
theorem step_append_run {w : World} {ops : Array Oper} {o : Oper} {a : Act} {K : Act → World → Prop} {Q : Exit → Act → World → Prop} {E : Prop} (hg : o.guard = none) (s x : Operand) (t : TypeId)
    (hop : o.op = Op.call { callee := Callee.builtin Builtin.append, args := #[s, x], argTypes := #[t, t] }) (v1 v2 : Value) (hs : a.eval s = v1) (hx : a.eval x = v2) (v' : Value) (w' : World)
    (hr : (Builtin.append_ #[t, t] o.type #[v1, v2]).run Try.prog w = .ok v' w') (hK : K (a.put o.dst v') w') :
    if Region.wanted o (yielded ops a.tmps) = true then Oper.wp Try.prog o a w K Q else E := by
  have hw : Region.wanted o (yielded ops a.tmps) = true := by simp [Region.wanted, hg]
  rw [if_pos hw]
  unfold Oper.wp
  simp [execOp, hop, resolve, invoke, builtin, hs, hx, hr, Result.andThen]
  exact hK

end Go.Proofs.Qxb6001364a
