import Derived.Test.Qxb6001364aOver
import Derived.Laws.BytesArg
namespace Go.Proofs.Qxb6001364a
open Go.ChangeShapes Go.WideShapes Go.ChangeAt Go.RowKit Go.Maps

/-- The number that a list of digits means. -/
def decVal : List Nat → Nat
  | [] => 0
  | d :: ds => d * 10 ^ ds.length + decVal ds

/-- s is x in decimal (leading noughts let by). -/
def IsDec (s : ByteArray) (x : Nat) : Prop := ∃ ds : List Nat, (∀ d ∈ ds, d < 10) ∧ s.data.toList = ds.map (fun d => UInt8.ofNat (48 + d)) ∧ decVal ds = x ∧ ds.length ≤ 24

theorem ofNat_inj {a b : Nat} (ha : a < 10) (hb : b < 10) (h : UInt8.ofNat (48 + a) = UInt8.ofNat (48 + b)) : a = b := by
  have := congrArg UInt8.toNat h
  simp at this
  omega

theorem map_inj : ∀ {l m : List Nat}, (∀ d ∈ l, d < 10) → (∀ d ∈ m, d < 10) → l.map (fun d => UInt8.ofNat (48 + d)) = m.map (fun d => UInt8.ofNat (48 + d)) → l = m
  | [], [], _, _, _ => rfl
  | [], _ :: _, _, _, h => by simp at h
  | _ :: _, [], _, _, h => by simp at h
  | a :: l, b :: m, hl, hm, h => by
    simp only [List.map_cons, List.cons.injEq] at h
    rw [ofNat_inj (hl a (by simp)) (hm b (by simp)) h.1, map_inj (fun d hd => hl d (by simp [hd])) (fun d hd => hm d (by simp [hd])) h.2]

theorem isDec_inj {s : ByteArray} {x y : Nat} (hx : IsDec s x) (hy : IsDec s y) : x = y := by
  obtain ⟨ds, h1, h2, h3, _⟩ := hx
  obtain ⟨es, g1, g2, g3, _⟩ := hy
  have := map_inj h1 g1 (h2.symm.trans g2)
  subst this
  omega
theorem isDec_size {s : ByteArray} {x : Nat} (h : IsDec s x) : s.size ≤ 24 := by
  obtain ⟨ds, h1, h2, h3, h4⟩ := h
  have := congrArg List.length h2
  simp at this
  omega

/-- The loop's digits. -/
structure Digs (x0 xr i : Nat) (ds : List Nat) (A : Array Value) : Prop where
  sum : x0 = xr * 10 ^ ds.length + decVal ds
  len : i + ds.length = 24
  lt : xr < 10 ^ (5 - ds.length)
  five : ds.length ≤ 5
  small : ∀ d ∈ ds, d < 10
  size : A.size = 24
  cells : ∀ j d : Nat, ds[j]? = some d → A[i + j]? = some (.int .u8 (48 + (d : Int)))

theorem Digs.step {x0 xr i : Nat} {ds : List Nat} {A : Array Value} (h : Digs x0 xr (i + 1) ds A) (hx : 0 < xr) : Digs x0 (xr / 10) i (xr % 10 :: ds) (A.setIfInBounds i (.int .u8 (48 + ((xr % 10 : Nat) : Int)))) := by
  have hl := h.len
  have h5 := h.five
  have hlt := h.lt
  have hne : ds.length < 5 := by
    rcases Nat.lt_or_ge ds.length 5 with h' | h'
    · exact h'
    · have : 5 - ds.length = 0 := by omega
      rw [this] at hlt
      simp at hlt
      omega
  refine ⟨?_, by simp; omega, ?_, by simp; omega, ?_, by simpa using h.size, ?_⟩
  · have hs := h.sum
    have hd := Nat.div_add_mod xr 10
    simp only [decVal, List.length_cons, Nat.pow_succ]
    rw [hs]
    conv => lhs; rw [← hd]
    rw [Nat.add_mul]
    have : 10 * (xr / 10) * 10 ^ ds.length = xr / 10 * (10 ^ ds.length * 10) := by
      rw [Nat.mul_comm 10 (xr / 10), Nat.mul_assoc, Nat.mul_comm 10]
    rw [this, Nat.add_assoc]
  · have e : 5 - ds.length = (5 - (ds.length + 1)) + 1 := by omega
    rw [e, Nat.pow_succ] at hlt
    simp only [List.length_cons]
    exact Nat.div_lt_of_lt_mul (by rw [Nat.mul_comm]; exact hlt)
  · intro d hd
    rcases List.mem_cons.1 hd with rfl | hd
    · exact Nat.mod_lt _ (by omega)
    · exact h.small d hd
  · intro j d hj
    cases j with
    | zero =>
      simp at hj
      subst hj
      have := h.size
      rw [Nat.add_zero, Array.getElem?_setIfInBounds_self_of_lt (by omega)]
    | succ j =>
      simp at hj
      have := h.cells j d hj
      rw [Array.getElem?_setIfInBounds_ne (by omega)]
      rw [show i + (j + 1) = i + 1 + j from by omega]
      exact this
theorem Digs.start {x0 : Nat} (hx : x0 ≤ 65536) {A : Array Value} (hA : A.size = 24) : Digs x0 x0 24 [] A :=
  ⟨by simp [decVal], rfl, by simp; omega, by simp, by simp, hA, fun j d h => by simp at h⟩
theorem Digs.pos {x0 xr i : Nat} {ds : List Nat} {A : Array Value} (h : Digs x0 xr i ds A) : 19 ≤ i ∧ i ≤ 24 := by
  have := h.len
  have := h.five
  omega

/-- The number's string. -/
theorem isDec_of {x0 i : Nat} {ds : List Nat} {A : Array Value} (h : Digs x0 0 i ds A) : IsDec (strOfNums (ds.map fun d : Nat => 48 + (d : Int))) x0 := by
  refine ⟨ds, h.small, ?_, by have := h.sum; omega, by have := h.len; omega⟩
  rw [strOfNums_data, List.map_map]
  apply List.map_congr_left
  intro d _
  show UInt8.ofNat (48 + (d : Int)).toNat = _
  rw [show (48 + (d : Int)).toNat = 48 + d from by omega]

set_option maxRecDepth 100000 in
set_option maxHeartbeats 1000000 in
theorem itoa_any (x : Nat) (w : World) (hx : x ≤ 65536) :
    Calls Try.prog 31 #[.int .i64 x] w fun e w' => ∃ s, e = .returned (.string s) ∧ IsDec s x ∧ Below w.heap.size w w' := by
  by_cases h0 : x = 0
  · subst h0
    go_enter Try.func31, Try.ntmps31
    go_wp2
    go_ret
    exact ⟨_, rfl, ⟨[0], by simp, rfl, rfl, by simp⟩, Below.refl _ _⟩
  · have hpos : (0 : Int) < (x : Int) := by omega
    have hc := run_convert_bytes_arg (P := Try.prog)
    have HC : Hid _ := hc
    clear hc
    go_enter Try.func31, Try.ntmps31
    go_wp2
    generalize hA0 : (#[.int .u8 0, .int .u8 0, .int .u8 0, .int .u8 0, .int .u8 0, .int .u8 0, .int .u8 0, .int .u8 0, .int .u8 0, .int .u8 0, .int .u8 0, .int .u8 0, .int .u8 0, .int .u8 0, .int .u8 0, .int .u8 0, .int .u8 0, .int .u8 0, .int .u8 0, .int .u8 0, .int .u8 0, .int .u8 0, .int .u8 0, .int .u8 0] : Array Value) = A0
    have hs0 : A0.size = 24 := by rw [← hA0]; rfl
    clear hA0
    go_loopw [0, 4] (fun xv iv wr => ∃ (xr i : Nat) (ds : List Nat) (A : Array Value), xv = .int .i64 xr ∧ iv = .int .i64 i ∧ xr ≤ x ∧ Digs x xr i ds A ∧ wr.heap[w.heap.size]? = some (.cells A 73 (0, 0)) ∧ Below w.heap.size w wr) (fun xv _ _ => (intOf xv).toNat)
    case atStart => exact ⟨x, 24, [], A0, rfl, rfl, Nat.le_refl _, Digs.start hx hs0, heap_alloc_new w _, (Below.refl _ _).alloc (Nat.le_refl _) _⟩
    case round =>
      obtain ⟨xr, i, ds, A, rfl, rfl, hxr, hD, hA, hbel⟩ := hrel
      obtain ⟨hi1, hi2⟩ := hD.pos
      have HD : Hid (Digs x xr i ds A) := hD
      have HA : Hid (wr.heap[w.heap.size]? = some (.cells A 73 (0, 0))) := hA
      have HB : Hid (Below w.heap.size w wr) := hbel
      have hAs := hD.size
      clear hbel hs0
      by_cases hp : 0 < xr
      · obtain ⟨j, rfl⟩ : ∃ j, i = j + 1 := ⟨i - 1, by omega⟩
        have hcw : wr.cell? ⟨w.heap.size, j, none⟩ = some (A[j]'(by omega)) := by rw [cell_of_row wr _ _ _ _ _ hA, Array.getElem?_eq_getElem]
        have hfw : wr.frozen? ⟨w.heap.size, j, none⟩ = false := frozen_of_row wr _ _ _ _ hA
        have hpi : (0 : Int) < (xr : Int) := by omega
        have hxb : (xr : Int) ≤ 65536 := by omega
        have hji : (j : Int) < 24 := by omega
        clear hD hA
        go_wp2
        go_roundw
        case rel => exact ⟨xr / 10, j, xr % 10 :: ds, _, by go_num, by go_num, by omega, HD.out.step hp, heap_setCell_same _ _ _ _ _ _ HA.out, HB.out.setCell (by exact Nat.le_refl _) _⟩
        case measure => simp [intOf]; omega
      · have hx0 : xr = 0 := by omega
        subst hx0
        have hi3 : i ≤ 23 := by
          have := hD.sum
          have := hD.len
          cases ds with
          | nil => simp [decVal] at *; omega
          | cons d ds => simp at *; omega
        have hcv := HC.out wr 74 5 Try.underlying74 Try.underlying5 w.heap.size i (24 - i) (24 - i) (ds.map fun d : Nat => 48 + (d : Int)) (by have := hD.len; simp; omega) (fun j hj => by
          have hjl : j < ds.length := by have := hD.len; omega
          obtain ⟨d, hd⟩ : ∃ d, ds[j]? = some d := ⟨_, List.getElem?_eq_getElem hjl⟩
          rw [cell_of_row wr _ _ _ _ _ hA, hD.cells j d hd]
          simp [List.getD_eq_getElem?_getD, hd]) 9 Try.underlying9
        obtain ⟨s, hs⟩ : ∃ s, s = strOfNums (ds.map fun d : Nat => 48 + (d : Int)) := ⟨_, rfl⟩
        rw [← hs] at hcv
        have HDEC : Hid (IsDec s x) := by rw [hs]; exact isDec_of hD
        have hii : ¬ (24 : Nat) = i := by omega
        have hi4 : (i : Int) ≤ 24 := by omega
        clear hs hD hA HC hpos
        go_wp2
        go_ret
        exact ⟨s, rfl, HDEC.out, HB.out⟩
end Go.Proofs.Qxb6001364a
