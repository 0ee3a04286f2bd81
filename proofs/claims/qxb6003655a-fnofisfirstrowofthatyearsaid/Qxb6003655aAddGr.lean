import Derived.Test.Qxb6003655aAddNew
namespace Go.Proofs.Qxb6003655a
open Go.ChangeShapes Go.WideShapes Go.ChangeAt Go.RowKit Go.Maps

/-- The file with a last chunk that has room. -/
structure Pre (w : World) (base bg bf bt : Nat) (ms : List Mk) (ts : List ByteArray) (mb cap g : Nat) (gs : List Nat) (tv : Value) (curM cur : Array Value) : Prop where
  ltg : bg < base
  ltf : bf < base
  ltt : bt < base
  neq : bf ≠ bt
  big : base ≤ w.heap.size
  row0 : w.heap[bg]? = some (.cells #[.map (some bf), .slice (some ⟨mb, 0, none⟩) gs.length cap, .int .i32 ms.length, tv, .map (some bt), .int .i64 0] 44 (0, 0))
  own : w.ownsRow base 52 1 (.slice (some ⟨mb, 0, none⟩) gs.length cap) gs.length (chunkVals gs ms.length)
  rowm : w.heap[mb]? = some (.cells curM 52 (0, 0))
  txt : w.ownsRow base 9 1 tv ts.length (ts.map Value.string)
  nodup : gs.Nodup
  low : ∀ g ∈ gs, base ≤ g
  row : ∀ c g, gs[c]? = some g → ∃ cur : Array Value, w.heap[g]? = some (.cells cur 48 (0, 0)) ∧ cur.size = 16384 ∧
    ∀ r m, r < 4096 → ms[4096 * c + r]? = some m → cur[4 * r]? = some (.int .i32 m.line) ∧ cur[4 * r + 1]? = some (.int .i16 m.year) ∧ cur[4 * r + 2]? = some (.int .i32 m.text) ∧ cur[4 * r + 3]? = some (.int .i32 m.next)
  len : gs.length = ms.length / 4096 + 1
  last : gs[ms.length / 4096]? = some g
  rowg : w.heap[g]? = some (.cells cur 48 (0, 0))
  textOf : ∃ f, MapF w bt ts.length f ∧ ∀ s c, f s = some c → ∃ i : Nat, c = i ∧ ts[i]? = some s

theorem putMk_size {cur : Array Value} {r : Nat} {m : Mk} (h : cur.size = 16384) (hr : r < 4096) : (putMk cur r m).size = 16384 := by
  simp [putMk, Mk.vals]
  omega
theorem putMk_other {cur : Array Value} {r : Nat} {m : Mk} {j : Nat} (h : cur.size = 16384) (hr : r < 4096) (hj : j < 4 * r) : (putMk cur r m)[j]? = cur[j]? := by
  simp only [putMk, List.getElem?_toArray]
  rw [List.getElem?_append_left (by simp [Mk.vals]; omega), List.getElem?_append_left (by simp; omega), List.getElem?_take_of_lt (by omega)]
  simp
theorem putMk_at {cur : Array Value} {r : Nat} {m : Mk} {j : Nat} (h : cur.size = 16384) (hr : r < 4096) (hj : j < 4) : (putMk cur r m)[4 * r + j]? = m.vals[j]? := by
  simp only [putMk, List.getElem?_toArray]
  have hl : (cur.toList.take (r * 4)).length = r * 4 := by simp; omega
  rw [List.getElem?_append_left (by simp [Mk.vals]; omega), List.getElem?_append_right (by omega), hl]
  congr 1
  omega

theorem chunkVals_succ {gs : List Nat} {n g : Nat} {l : List Value} (hlen : gs.length = n / 4096 + 1) (hlast : gs[n / 4096]? = some g) (hl : l.take gs.length = chunkVals gs n) (hll : gs.length ≤ l.length) :
    (l.set (gs.length - 1) (.slice (some ⟨g, 0, none⟩) (n % 4096 + 1) 4096)).take gs.length = chunkVals gs (n + 1) := by
  apply List.ext_getElem?
  intro c
  by_cases hc : c < gs.length
  · obtain ⟨x, hx⟩ : ∃ x, gs[c]? = some x := ⟨_, List.getElem?_eq_getElem hc⟩
    rw [chunkVals_at hx, List.getElem?_take_of_lt hc]
    by_cases hcl : c = gs.length - 1
    · subst hcl
      rw [List.getElem?_set_self (by omega)]
      have : gs.length - 1 = n / 4096 := by omega
      rw [this, hlast] at hx
      cases hx
      rw [this]
      have : min 4096 (n + 1 - 4096 * (n / 4096)) = n % 4096 + 1 := by omega
      rw [this]
    · rw [List.getElem?_set_ne (by omega)]
      have h1 : (chunkVals gs n)[c]? = some (.slice (some ⟨x, 0, none⟩) (min 4096 (n - 4096 * c)) 4096) := chunkVals_at hx
      rw [← hl, List.getElem?_take_of_lt hc] at h1
      rw [h1]
      have : min 4096 (n + 1 - 4096 * c) = min 4096 (n - 4096 * c) := by omega
      rw [this]
  · rw [List.getElem?_eq_none (by simp; omega), List.getElem?_eq_none (by rw [chunkVals_length]; omega)]

theorem gr_added {w w' : World} {base bg bf bt : Nat} {ms : List Mk} {ts : List ByteArray} {mb cap g : Nat} {gs : List Nat} {tv : Value} {curM cur : Array Value} {m : Mk} (h : Pre w base bg bf bt ms ts mb cap g gs tv curM cur)
    (a : Added w w' bg mb g gs.length (ms.length % 4096) ms.length m #[.map (some bf), .slice (some ⟨mb, 0, none⟩) gs.length cap, .int .i32 ms.length, tv, .map (some bt), .int .i64 0] curM cur) :
    Gr w' base bg bf bt (ms ++ [m]) ts ∧ Keep base bg bt w w' := by
  obtain ⟨f, hF, hfi⟩ := h.textOf
  obtain ⟨es, cl, hbt⟩ := hF.isMap
  have hrl : ms.length % 4096 < 4096 := Nat.mod_lt _ (by omega)
  have ho := a.other
  have nbg : bg ≠ g := ne_of_obj h.row0 h.rowg (by simp)
  have nmg : mb ≠ g := ne_of_obj h.rowm h.rowg (by simp)
  have hbw : w'.heap[bt]? = w.heap[bt]? := ho bt (row_lt hbt) (ne_of_obj hbt h.row0 (by simp)) (ne_of_obj hbt h.rowm (by simp)) (ne_of_obj hbt h.rowg (by simp))
  obtain ⟨cur0, hc0, hcs, hcr⟩ := h.row _ _ h.last
  have e0 : cur0 = cur := by have := hc0.symm.trans h.rowg; simpa using this
  subst e0
  refine ⟨⟨h.ltg, h.ltf, h.ltt, h.neq, Nat.le_trans h.big a.size, ⟨.slice (some ⟨mb, 0, none⟩) gs.length cap, tv, gs, ?_, ?_, ?_, ?_⟩, f, hF.same hbw, hfi⟩, ?_⟩
  · have := a.bgr
    simpa using this
  · obtain ⟨hl1, hl2⟩ := h.own
    rcases hl2 with ⟨h0, _⟩ | ⟨g', cap', curM', hv, hb, hg, hle, hmx, hsz, htk⟩
    · cases h0
    · simp only [Value.slice.injEq, Option.some.injEq, Addr.mk.injEq, and_true] at hv
      obtain ⟨e1, _, e3⟩ := hv
      subst e1 e3
      have e4 : curM' = curM := by have := hg.symm.trans h.rowm; simpa using this
      subst e4
      simp only [Nat.mul_one] at htk hsz
      refine ⟨by rw [chunkVals_length]; simp, .inr ⟨mb, cap, _, rfl, hb, a.mbr, hle, hmx, by simpa using hsz, ?_⟩⟩
      simp only [Nat.mul_one, List.length_append, List.length_singleton, Array.toList_setIfInBounds]
      exact chunkVals_succ h.len h.last htk (by simp; omega)
  · refine owns_same h.txt fun k hk => ?_
    obtain ⟨c, hc⟩ := owns_block h.txt hk
    exact ho k (row_lt hc) (ne_of_obj hc h.row0 (by simp)) (ne_of_obj hc h.rowm (by simp)) (ne_of_obj hc h.rowg (by simp))
  · refine ⟨by simp; have := h.len; omega, h.nodup, h.low, fun c x hx => ?_⟩
    by_cases hxg : x = g
    · subst hxg
      have hcl : c = ms.length / 4096 := by
        have h1 : c < gs.length := (List.getElem?_eq_some_iff.1 hx).1
        exact (List.getElem?_inj h1 h.nodup).1 (hx.trans h.last.symm)
      subst hcl
      refine ⟨_, a.gr, putMk_size hcs hrl, fun r m' hr hm' => ?_⟩
      by_cases hr' : r < ms.length % 4096
      · rw [List.getElem?_append_left (by omega)] at hm'
        obtain ⟨r0, r1, r2, r3⟩ := hcr r m' hr hm'
        rw [putMk_other hcs hrl (by omega), putMk_other hcs hrl (by omega), putMk_other hcs hrl (by omega), putMk_other hcs hrl (by omega)]
        exact ⟨r0, r1, r2, r3⟩
      · have hlt := (List.getElem?_eq_some_iff.1 hm').1
        simp at hlt
        have : r = ms.length % 4096 := by omega
        subst this
        rw [show 4096 * (ms.length / 4096) + ms.length % 4096 = ms.length from Nat.div_add_mod _ _] at hm'
        simp at hm'
        subst hm'
        exact ⟨putMk_at (j := 0) hcs hrl (by omega), putMk_at (j := 1) hcs hrl (by omega), putMk_at (j := 2) hcs hrl (by omega), putMk_at (j := 3) hcs hrl (by omega)⟩
    · obtain ⟨cu, hcu, hcsz, hcrr⟩ := h.row c x hx
      refine ⟨cu, (ho x (row_lt hcu) (ne_of_obj hcu h.row0 (by simp)) (ne_of_obj hcu h.rowm (by simp)) hxg).trans hcu, hcsz, fun r m' hr hm' => hcrr r m' hr ?_⟩
      have h1 : c < gs.length := (List.getElem?_eq_some_iff.1 hx).1
      have hcl : c ≠ ms.length / 4096 := by
        intro e
        subst e
        rw [h.last] at hx
        cases hx
        exact hxg rfl
      have := h.len
      rw [List.getElem?_append_left (by omega)] at hm'
      exact hm'
  · have hmbase : base ≤ mb := (h.own.lt mb rfl).1
    have hgbase : base ≤ g := h.low g (List.mem_of_getElem? h.last)
    exact ⟨a.os, a.tape, a.output, a.size, fun k h1 h2 _ => ho k (by have := h.big; omega) h2 (by omega) (by omega)⟩

/-- A mark as a value. -/
def Mk.val (m : Mk) : Value := .agg #[.int .i32 m.line, .int .i16 m.year, .int .i32 m.text, .int .i32 m.next]

set_option maxHeartbeats 1000000 in
theorem add_any (w : World) (base bg bf bt : Nat) (ms : List Mk) (ts : List ByteArray) (m : Mk) (hG : Gr w base bg bf bt ms ts) (hn : ms.length < 65536) :
    Calls Try.prog 15 #[.pointer (some ⟨bg, 0, none⟩), m.val] w fun e w' => e = .returned (.tuple #[]) ∧ Gr w' base bg bf bt (ms ++ [m]) ts ∧ Keep base bg bt w w' := by
  obtain ⟨ltg, ltf, ltt, neq, big, ⟨mv, tv, gs, hb, hmv, htv, hC⟩, hT⟩ := hG
  have hlen := hC.len
  by_cases hmod : ms.length % 4096 = 0
  · refine (add_new w base bg gs.length ms.length m _ mv _ hb rfl rfl hmv (by omega) hn big (by simp; omega)).mono ?_
    rintro e w' ⟨rfl, W, mb, cap, g, cur, curM, O, hm, a⟩
    refine ⟨rfl, ?_⟩
    have hgl : (gs ++ [g]).length = gs.length + 1 := by simp
    have hgn : g ∉ gs := by
      intro hg
      obtain ⟨c, hc⟩ := List.getElem?_of_mem hg
      obtain ⟨cu, hcu, _⟩ := hC.row c g hc
      have := row_lt hcu
      have := O.gnew
      omega
    obtain ⟨f, hF, hfi⟩ := hT
    obtain ⟨es, cl, hbt⟩ := hF.isMap
    have hcv : chunkVals gs ms.length ++ [.slice (some ⟨g, 0, none⟩) 0 4096] = chunkVals (gs ++ [g]) ms.length := by
      have h0 : ms.length = 4096 * gs.length := by omega
      simp [chunkVals, List.zipIdx_append]
      omega
    have hP : Pre W base bg bf bt ms ts mb cap g (gs ++ [g]) tv curM cur := by
      refine ⟨ltg, ltf, ltt, neq, Nat.le_trans big O.size, ?_, ?_, hm, ?_, ?_, ?_, ?_, ?_, ?_, O.gr, ?_⟩
      · have := O.bgr
        rw [hgl]
        simpa using this
      · rw [hgl, ← hcv]
        exact O.own
      · refine owns_same htv fun k hk => ?_
        obtain ⟨c, hc⟩ := owns_block htv hk
        exact O.other k (row_lt hc) (ne_of_obj hc hb (by simp)) (ne_owned hmv hc (by decide))
      · rw [List.nodup_append]
        refine ⟨hC.nodup, by simp, fun x hx y hy => ?_⟩
        simp at hy
        subst hy
        intro e
        subst e
        exact hgn hx
      · intro x hx
        rcases List.mem_append.1 hx with hx | hx
        · exact hC.low x hx
        · simp at hx
          subst hx
          have := O.gnew
          omega
      · intro c x hx
        by_cases hcl : c < gs.length
        · rw [List.getElem?_append_left hcl] at hx
          obtain ⟨cu, hcu, h1, h2⟩ := hC.row c x hx
          exact ⟨cu, (O.other x (row_lt hcu) (ne_of_obj hcu hb (by simp)) (ne_owned hmv hcu (by decide))).trans hcu, h1, h2⟩
        · have hlt := (List.getElem?_eq_some_iff.1 hx).1
          simp at hlt
          have : c = gs.length := by omega
          subst this
          simp at hx
          subst hx
          refine ⟨cur, O.gr, O.gsz, fun r m' hr hm' => ?_⟩
          have := (List.getElem?_eq_some_iff.1 hm').1
          omega
      · rw [hgl]; omega
      · have : ms.length / 4096 = gs.length := by omega
        rw [this]
        simp
      · exact ⟨f, hF.same (O.other bt (row_lt hbt) (ne_of_obj hbt hb (by simp)) (ne_owned_map hmv hbt)), hfi⟩
    have R := gr_added (m := m) hP (by rw [hgl, hmod]; simpa using a)
    refine ⟨R.1, Keep.trans ?_ R.2⟩
    refine ⟨O.os, O.tape, O.output, O.size, fun k h1 h2 _ => O.other k (by omega) h2 (fun e => ?_)⟩
    have := (hmv.lt k e.symm).1
    omega
  · obtain ⟨mb, cap, hmv', _, _⟩ := hmv.form (by omega)
    subst hmv'
    obtain ⟨curM, hcm⟩ := owns_block hmv rfl
    have hc : ms.length / 4096 < gs.length := by omega
    obtain ⟨g, hg⟩ : ∃ g, gs[ms.length / 4096]? = some g := ⟨_, List.getElem?_eq_getElem hc⟩
    obtain ⟨cur, hcur, hcs, hr⟩ := hC.row _ _ hg
    have hcM : curM[gs.length - 1]? = some (.slice (some ⟨g, 0, none⟩) (ms.length % 4096) 4096) := by
      have := hmv.cells (g := mb) rfl (ms.length / 4096) _ (chunkVals_at hg)
      have hadd : (⟨mb, 0, none⟩ : Addr).add (ms.length / 4096) = ⟨mb, ms.length / 4096, none⟩ := by unfold Addr.add; split <;> simp_all
      rw [hadd, cell_of_row w _ _ _ _ _ hcm] at this
      have e1 : gs.length - 1 = ms.length / 4096 := by omega
      have e2 : min 4096 (ms.length - 4096 * (ms.length / 4096)) = ms.length % 4096 := by omega
      rw [e1, this, e2]
    refine (add_room w bg mb g gs.length cap (ms.length % 4096) ms.length m _ curM cur hb rfl rfl hcm hcM (by omega) (by omega) (Nat.mod_lt _ (by omega)) hn hcur hcs (by simp; omega)).mono ?_
    rintro e w' ⟨rfl, a⟩
    exact ⟨rfl, gr_added ⟨ltg, ltf, ltt, neq, big, hb, hmv, hcm, htv, hC.nodup, hC.low, hC.row, by omega, hg, hcur, hT⟩ a⟩

/-- ZZAdd passes on. -/
theorem zzAdd_any (w : World) (base bg bf bt : Nat) (ms : List Mk) (ts : List ByteArray) (m : Mk) (hG : Gr w base bg bf bt ms ts) (hn : ms.length < 65536) :
    Calls Try.prog 11 #[.pointer (some ⟨bg, 0, none⟩), .int .i32 m.line, .int .i16 m.year, .int .i32 m.text, .int .i32 m.next] w fun e w' => e = .returned (.tuple #[]) ∧ Gr w' base bg bf bt (ms ++ [m]) ts ∧ Keep base bg bt w w' := by
  go_enter Try.func11, Try.ntmps11
  go_wp2_with fail
  refine (add_any w base bg bf bt ms ts m hG hn).mono ?_
  rintro e w1 ⟨rfl, h1, h2⟩
  go_wp2
  go_end0
  exact ⟨rfl, h1, h2⟩
end Go.Proofs.Qxb6003655a
