import Derived.Test.Qxb6003655aOf
import Derived.Test.Qxb6003655aBytes
namespace Go.Proofs.Qxb6003655a
open Go.ChangeShapes Go.WideShapes Go.ChangeAt Go.RowKit Go.Maps

/-- f gives, of each name, its first place from j on. -/
def FirstFrom (names : List ByteArray) (j : Nat) (f : ByteArray → Option Int) : Prop :=
  (∀ p, f p = none → ∀ l : Nat, j ≤ l → names[l]? ≠ some p) ∧ ∀ p c, f p = some c → ∃ i : Nat, c = i ∧ j ≤ i ∧ names[i]? = some p ∧ ∀ l : Nat, j ≤ l → l < i → names[l]? ≠ some p

theorem firstFrom_end (names : List ByteArray) : FirstFrom names names.length (fun _ => none) :=
  ⟨fun p _ l hl h => by have := (List.getElem?_eq_some_iff.1 h).1; omega, fun p c h => by cases h⟩

theorem firstFrom_step {names : List ByteArray} {j : Nat} {f : ByteArray → Option Int} {s : ByteArray} (h : FirstFrom names (j + 1) f) (hs : names[j]? = some s) : FirstFrom names j (upd f s j) := by
  refine ⟨fun p hp l hl he => ?_, fun p c hp => ?_⟩
  · by_cases hps : p = s
    · subst hps
      rw [upd_same] at hp
      cases hp
    · rw [upd_other _ _ hps] at hp
      by_cases hlj : l = j
      · subst hlj
        rw [hs] at he
        cases he
        exact hps rfl
      · exact h.1 p hp l (by omega) he
  · by_cases hps : p = s
    · subst hps
      rw [upd_same] at hp
      cases hp
      exact ⟨j, rfl, Nat.le_refl _, hs, fun l h1 h2 => by omega⟩
    · rw [upd_other _ _ hps] at hp
      obtain ⟨i, rfl, h1, h2, h3⟩ := h.2 p c hp
      refine ⟨i, rfl, by omega, h2, fun l h4 h5 he => ?_⟩
      by_cases hlj : l = j
      · subst hlj
        rw [hs] at he
        cases he
        exact hps rfl
      · exact h3 l (by omega) h5 he

/-- v is the next place of the name at j, or 0. -/
def NextAt (names : List ByteArray) (j : Nat) (v : Int) : Prop :=
  (v = 0 ∧ ∀ k : Nat, j < k → k < names.length → names[k]? ≠ names[j]?) ∨ (∃ k : Nat, v = k ∧ j < k ∧ k < names.length ∧ names[k]? = names[j]? ∧ ∀ l : Nat, j < l → l < k → names[l]? ≠ names[j]?)

theorem next_none {names : List ByteArray} {j : Nat} {f : ByteArray → Option Int} {s : ByteArray} (h : FirstFrom names (j + 1) f) (hs : names[j]? = some s) (hf : f s = none) : NextAt names j 0 :=
  .inl ⟨rfl, fun k h1 _ he => h.1 s hf k h1 (by rw [he, hs])⟩
theorem next_some {names : List ByteArray} {j : Nat} {f : ByteArray → Option Int} {s : ByteArray} {c : Int} (h : FirstFrom names (j + 1) f) (hs : names[j]? = some s) (hf : f s = some c) : NextAt names j c := by
  obtain ⟨i, rfl, h1, h2, h3⟩ := h.2 s c hf
  exact .inr ⟨i, rfl, by omega, (List.getElem?_eq_some_iff.1 h2).1, by rw [h2, hs], fun l h4 h5 he => h3 l (by omega) h5 (by rw [he, hs])⟩
theorem next_bd {names : List ByteArray} {j : Nat} {v : Int} (h : NextAt names j v) : 0 ≤ v ∧ v ≤ names.length := by
  rcases h with ⟨rfl, _⟩ | ⟨k, rfl, _, h, _⟩ <;> omega

theorem at_getD {l : List ByteArray} {j : Nat} {s : ByteArray} (h : s = l.getD j ByteArray.empty) (hj : j < l.length) : l[j]? = some s := by
  rw [h, List.getD_eq_getElem?_getD]
  simp [hj]

theorem toList_inj' {a b : ByteArray} (h : a.toList = b.toList) : a = b := by
  rw [ByteArray.toList_eq, ByteArray.toList_eq] at h
  exact data_inj h

theorem below_drewN' {B : Nat} {w w' : World} (h : Below B w w') (n : Nat) : Below B w (w'.drewN n) := ⟨h.os, h.tape, h.output, h.size, h.block⟩

/-- The first hit is one place. -/
theorem first_hit {names : List ByteArray} {years : List Int} {p : ByteArray} {y : Int} {j k : Nat} (hj : Hit names years p y j) (hjf : ∀ l, l < j → ¬ Hit names years p y l) (hk : Hit names years p y k) (hkf : ∀ l, l < k → ¬ Hit names years p y l) : j = k := by
  rcases Nat.lt_trichotomy j k with h | h | h
  · exact absurd hj (hkf j h)
  · exact h
  · exact absurd hk (hjf k h)
theorem no_hit_succ {names : List ByteArray} {years : List Int} {p : ByteArray} {y : Int} {k : Nat} (h : ∀ l, l < k → ¬ Hit names years p y l) (hk : ¬ Hit names years p y k) : ∀ l, l < k + 1 → ¬ Hit names years p y l := fun l hl => by
  by_cases e : l = k
  · rw [e]; exact hk
  · exact h l (by omega)
theorem no_hit_name {names : List ByteArray} {years : List Int} {p : ByteArray} {y : Int} {k : Nat} {s : ByteArray} (h : names[k]? = some s) (hne : ¬ s.toList = p.toList) : ¬ Hit names years p y k := fun hh => by
  have := hh.1
  rw [h] at this
  cases this
  exact hne rfl
theorem no_hit_year {names : List ByteArray} {years : List Int} {p : ByteArray} {y : Int} {k : Nat} {z : Int} (h : years[k]? = some z) (hne : (z == y) = false) : ¬ Hit names years p y k := fun hh => by
  have := hh.2
  rw [h] at this
  cases this
  simp at hne
theorem hit_mk {names : List ByteArray} {years : List Int} {p : ByteArray} {y : Int} {k : Nat} {s : ByteArray} {z : Int} (h1 : names[k]? = some s) (h2 : years[k]? = some z) (e1 : s.toList = p.toList) (e2 : (z == y) = true) : Hit names years p y k := by
  have := toList_inj' e1
  subst this
  have : z = y := by simpa using e2
  subst this
  exact ⟨h1, h2⟩

/-- The state of the backward loop, the places from j on done. -/
structure L3 (w3 wr : World) (names : List ByteArray) (j : Nat) (f : ByteArray → Option Int) (A : Array Value) : Prop where
  bel : Below w3.heap.size w3 wr
  size : w3.heap.size + 5 ≤ wr.heap.size
  bgr : wr.heap[w3.heap.size + 2]? = some (.cells (newCells w3.heap.size (w3.heap.size + 1)) 44 (0, 0))
  btr : wr.heap[w3.heap.size + 1]? = some (.map #[] 0)
  first : MapF wr w3.heap.size (names.length - j) f
  seen : MapF wr (w3.heap.size + 4) (names.length - j) f
  from_ : FirstFrom names j f
  nxt : wr.heap[w3.heap.size + 3]? = some (.cells A 21 (0, 0))
  nsz : A.size = names.length
  nlo : ∀ i, i < j → A[i]? = some (.int .i32 0)
  nhi : ∀ i, j ≤ i → i < names.length → ∃ v, A[i]? = some (.int .i32 v) ∧ NextAt names i v

theorem L3.step {w3 wr w1 w2 : World} {names : List ByteArray} {j : Nat} {f : ByteArray → Option Int} {A A' : Array Value} {s : ByteArray} {v : Int} (h : L3 w3 wr names (j + 1) f A) (hs : names[j]? = some s) (wA : World)
    (hA : (wA = wr ∧ A' = A) ∨ (wA = wr.setCell ⟨w3.heap.size + 3, j, none⟩ (.int .i32 v) ∧ A' = A.setIfInBounds j (.int .i32 v))) (hv : A'[j]? = some (.int .i32 v)) (hnv : NextAt names j v)
    (hM1 : MapF w1 (w3.heap.size + 4) (names.length - (j + 1) + 1) (upd f s j)) (hg1 : wA.grownBy w1 (some (w3.heap.size + 4)))
    (hM2 : MapF w2 w3.heap.size (names.length - (j + 1) + 1) (upd f s j)) (hg2 : w1.grownBy w2 (some w3.heap.size)) : L3 w3 w2 names j (upd f s j) A' := by
  have hjn : j < names.length := (List.getElem?_eq_some_iff.1 hs).1
  have hn : names.length - (j + 1) + 1 = names.length - j := by omega
  rw [hn] at hM1 hM2
  have sA : wA.heap.size = wr.heap.size := by
    rcases hA with ⟨rfl, _⟩ | ⟨rfl, _⟩
    · rfl
    · simp [World.setCell]
  have s1 := hg1.size
  have s2 := hg2.size
  have sr := h.size
  have hA1 : ∀ k, k < wr.heap.size → k ≠ w3.heap.size + 3 → wA.heap[k]? = wr.heap[k]? := fun k _ hk => by
    rcases hA with ⟨rfl, _⟩ | ⟨rfl, _⟩
    · rfl
    · exact heap_setCell_other _ _ _ _ hk
  have hAn : wA.heap[w3.heap.size + 3]? = some (.cells A' 21 (0, 0)) := by
    rcases hA with ⟨rfl, rfl⟩ | ⟨rfl, rfl⟩
    · exact h.nxt
    · exact heap_setCell_same _ _ _ _ _ _ h.nxt
  have h12 : ∀ k, k < wr.heap.size → k ≠ w3.heap.size + 4 → k ≠ w3.heap.size → w2.heap[k]? = wA.heap[k]? := fun k hk h1 h2 => by
    rw [hg2.block k (by omega) (by simpa using h2), hg1.block k (by omega) (by simpa using h1)]
  refine ⟨?_, by omega, ?_, ?_, hM2, ?_, firstFrom_step h.from_ hs, ?_, ?_, ?_, ?_⟩
  · have hb := h.bel
    have osA : wA.os = wr.os ∧ wA.tape = wr.tape ∧ wA.output = wr.output := by
      rcases hA with ⟨rfl, _⟩ | ⟨rfl, _⟩ <;> exact ⟨rfl, rfl, rfl⟩
    refine ⟨by rw [hg2.os, hg1.os, osA.1, hb.os], by rw [hg2.tape, hg1.tape, osA.2.1, hb.tape], by rw [hg2.output, hg1.output, osA.2.2, hb.output], by have := hb.size; omega, fun k hk => ?_⟩
    rw [h12 k (by omega) (by omega) (by omega), hA1 k (by omega) (by omega), hb.block k hk]
  · rw [h12 _ (by omega) (by omega) (by omega), hA1 _ (by omega) (by omega)]; exact h.bgr
  · rw [h12 _ (by omega) (by omega) (by omega), hA1 _ (by omega) (by omega)]; exact h.btr
  · exact hM1.grown hg2 (by simp)
  · rw [h12 _ (by omega) (by omega) (by omega)]; exact hAn
  · rcases hA with ⟨_, rfl⟩ | ⟨_, rfl⟩
    · exact h.nsz
    · simpa using h.nsz
  · intro i hi
    rcases hA with ⟨_, rfl⟩ | ⟨_, rfl⟩
    · exact h.nlo i (by omega)
    · rw [Array.getElem?_setIfInBounds_ne (by omega)]; exact h.nlo i (by omega)
  · intro i h1 h2
    by_cases hij : i = j
    · subst hij
      exact ⟨v, hv, hnv⟩
    · obtain ⟨u, hu, hun⟩ := h.nhi i (by omega) h2
      refine ⟨u, ?_, hun⟩
      rcases hA with ⟨_, rfl⟩ | ⟨_, rfl⟩
      · exact hu
      · rw [Array.getElem?_setIfInBounds_ne (by omega)]; exact hu

/-- The world behind ZZNew, the two makes. -/
def world5 (w3 : World) (M : Array Value) : World := ((((w3.alloc (.map #[] 0)).alloc (.map #[] 0)).alloc (.cells (newCells w3.heap.size (w3.heap.size + 1)) 44)).alloc (.cells M 21)).alloc (.map #[] 0)

theorem heap5 (w3 : World) (a b c d e : Obj) : (((((w3.alloc a).alloc b).alloc c).alloc d).alloc e).heap = ((((w3.heap.push a).push b).push c).push d).push e := rfl

theorem L3.start (w3 : World) (names : List ByteArray) (M : Array Value) (hM : M.size = names.length) (hM0 : ∀ j, j < names.length → M[j]? = some (.int .i32 0)) : L3 w3 (world5 w3 M) names names.length (fun _ => none) M := by
  have hs : ∀ k (h : k < 5), (world5 w3 M).heap[w3.heap.size + k]? = (#[(.map #[] 0 : Obj), .map #[] 0, .cells (newCells w3.heap.size (w3.heap.size + 1)) 44, .cells M 21, .map #[] 0])[k]? := by
    intro k h
    have : (world5 w3 M).heap = w3.heap ++ #[(.map #[] 0 : Obj), .map #[] 0, .cells (newCells w3.heap.size (w3.heap.size + 1)) 44, .cells M 21, .map #[] 0] := by
      unfold world5
      rw [heap5]
      apply Array.ext'
      simp
    rw [this, Array.getElem?_append_right (by omega)]
    simp
  have b0 := hs 0 (by omega)
  have b1 := hs 1 (by omega)
  have b2 := hs 2 (by omega)
  have b3 := hs 3 (by omega)
  have b4 := hs 4 (by omega)
  have hsz : (world5 w3 M).heap.size = w3.heap.size + 5 := by unfold world5; rw [heap5]; simp
  refine ⟨?_, by omega, b2, b1, ?_, ?_, firstFrom_end names, b3, hM, hM0, fun i h1 h2 => by omega⟩
  · have := (((((Below.refl w3.heap.size w3).alloc (Nat.le_refl _) (.map #[] 0)).alloc (by simp) (.map #[] 0)).alloc (by simp; omega) (.cells (newCells w3.heap.size (w3.heap.size + 1)) 44)).alloc (by simp; omega) (.cells M 21)).alloc (by simp; omega) (.map #[] 0)
    exact this
  · exact (MapF.made (by simpa using b0)).mono (Nat.zero_le _)
  · exact (MapF.made b4).mono (Nat.zero_le _)

/-- The state of the loop that fills the file: k rows in. -/
structure L4 (w5 wr : World) (base bg bf bt : Nat) (names texts : List ByteArray) (years : List Int) (k : Nat) (ms : List Mk) (ts : List ByteArray) : Prop where
  gr : Gr wr base bg bf bt ms ts
  keep : Keep base bg bt w5 wr
  len : ms.length = k
  tlen : ts.length ≤ k
  row : ∀ (j : Nat) (m : Mk), ms[j]? = some m → m.line = (j : Int) + 1 ∧ years[j]? = some m.year ∧ (∃ i : Nat, m.text = i ∧ ts[i]? = texts[j]?) ∧ NextAt names j m.next

theorem L4.step {w5 wr w1 w2 : World} {base bg bf bt : Nat} {names texts : List ByteArray} {years : List Int} {k : Nat} {ms : List Mk} {ts ts' : List ByteArray} {t : ByteArray} {i : Nat} {y v : Int} (h : L4 w5 wr base bg bf bt names texts years k ms ts)
    (hpre : ts <+: ts') (hl : ts'.length ≤ ts.length + 1) (hi : ts'[i]? = some t) (ht : texts[k]? = some t) (hy : years[k]? = some y) (hv : NextAt names k v) (hk1 : Keep base bg bt wr w1)
    (hG2 : Gr w2 base bg bf bt (ms ++ [⟨(k : Int) + 1, y, i, v⟩]) ts') (hk2 : Keep base bg bt w1 w2) : L4 w5 w2 base bg bf bt names texts years (k + 1) (ms ++ [⟨(k : Int) + 1, y, i, v⟩]) ts' := by
  have hlen := h.len
  have htl := h.tlen
  refine ⟨hG2, (h.keep.trans hk1).trans hk2, by simp [hlen], by omega, fun j m hm => ?_⟩
  by_cases hj : j < ms.length
  · rw [List.getElem?_append_left hj] at hm
    obtain ⟨h1, h2, ⟨i', h3, h4⟩, h5⟩ := h.row j m hm
    refine ⟨h1, h2, ⟨i', h3, ?_⟩, h5⟩
    by_cases hi' : i' < ts.length
    · rw [← h4]
      obtain ⟨r, rfl⟩ := hpre
      rw [List.getElem?_append_left hi']
    · rw [List.getElem?_eq_none (by omega)] at h4
      have h6 : j < texts.length := by
        have := (List.getElem?_eq_some_iff.1 ht).1
        omega
      rw [List.getElem?_eq_getElem h6] at h4
      cases h4
  · have hlt := (List.getElem?_eq_some_iff.1 hm).1
    simp at hlt
    have : j = ms.length := by omega
    subst this
    simp at hm
    subst hm
    subst hlen
    exact ⟨rfl, hy, ⟨i, rfl, by rw [hi, ht]⟩, hv⟩

/-- All rows in: what Of asks. -/
theorem rowed_of {w5 wr : World} {base bg bf bt : Nat} {names texts : List ByteArray} {years : List Int} {ms : List Mk} {ts : List ByteArray} {ff : ByteArray → Option Int} (h : L4 w5 wr base bg bf bt names texts years names.length ms ts) (hy : years.length = names.length) (ht : texts.length = names.length)
    (hyb : ∀ z ∈ years, -32768 ≤ z ∧ z ≤ 32767) (hf : FirstFrom names 0 ff) : Rowed ms ts names texts years ff := by
  refine ⟨h.len.symm, by rw [hy, h.len], by rw [ht, h.len], fun j m hm => (h.row j m hm).1, fun j m hm => ?_, fun j m hm => (h.row j m hm).2.2.1, fun j m hm => ?_, fun p hp l => hf.1 p hp l (Nat.zero_le _), fun p c hp => ?_⟩
  · have := (h.row j m hm).2.1
    exact ⟨this, hyb _ (List.mem_of_getElem? this)⟩
  · have := (h.row j m hm).2.2.2
    rw [h.len]
    exact this
  · obtain ⟨i, h1, _, h2, h3⟩ := hf.2 p c hp
    exact ⟨i, h1, h2, fun l hl => h3 l (Nat.zero_le _) hl⟩

theorem Gr.drew {w : World} {base bg bf bt : Nat} {ms : List Mk} {ts : List ByteArray} (h : Gr w base bg bf bt ms ts) : Gr w.drew base bg bf bt ms ts := by
  obtain ⟨h1, h2, h3, h4, h5, ⟨mv, tv, gs, b1, b2, b3, b4⟩, h6⟩ := h
  exact ⟨h1, h2, h3, h4, h5, ⟨mv, tv, gs, b1, b2, b3, ⟨b4.len, b4.nodup, b4.low, b4.row⟩⟩, h6⟩
theorem Keep.undrew {base bg bt : Nat} {w w' : World} (h : Keep base bg bt w.drew w') : Keep base bg bt w w' := ⟨h.os, h.tape, h.output, h.size, h.block⟩

/-- The empty file, its rows to come from the heap's end on. -/
theorem Gr.start {w : World} {bg bf bt : Nat} (h0 : w.heap[bg]? = some (.cells (newCells bf bt) 44 (0, 0))) (h1 : w.heap[bt]? = some (.map #[] 0)) (h2 : bf < w.heap.size) (hne : bf ≠ bt) : Gr w w.heap.size bg bf bt [] [] := by
  refine ⟨row_lt h0, h2, row_lt h1, hne, Nat.le_refl _, ⟨.slice none 0 0, .slice none 0 0, [], h0, World.ownsRow_nil _ _ _ _, World.ownsRow_nil _ _ _ _, ⟨rfl, by simp, by simp, fun c g h => by simp at h⟩⟩, _, MapF.made h1, fun s c h => by cases h⟩

theorem L4.start {w5 : World} {bg bf bt : Nat} {names texts : List ByteArray} {years : List Int} (h : Gr w5 w5.heap.size bg bf bt [] []) : L4 w5 w5 w5.heap.size bg bf bt names texts years 0 [] [] :=
  ⟨h, Keep.refl _ _ _ _, rfl, Nat.le_refl _, fun j m h => by simp at h⟩

/-- A cell of a block that the file's own writes leave alone. -/
theorem Keep.cell {base bg bt : Nat} {w w' : World} (h : Keep base bg bt w w') {a : Addr} (h1 : a.block < base) (h2 : a.block ≠ bg) (h3 : a.block ≠ bt) : w'.cell? a = w.cell? a := World.cell?_of_block (h.block _ h1 h2 h3)
end Go.Proofs.Qxb6003655a
